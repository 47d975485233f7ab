import PyProof.Rows.All
import Wide.All
import OpenK.KWalk
import OpenK.KMore
import OpenK.KOps
import OpenK.KMeth
import OpenK.KTop
import OpenK.KCell
import KE.KUnpack
import Open.Line
import Wide.FinOn
import KE.BitLaws
import PySem.Challenge.RW_dm0131_02
set_option Elab.async false
set_option linter.unusedVariables false
set_option linter.unusedSimpArgs false
set_option backward.match.sparseCases false
set_option genSizeOf false

section
open PySem PySem.W PyProof.Rows PySem.Calls
set_option Elab.async false
set_option backward.match.sparseCases false
set_option maxRecDepth 100000
namespace Mine

structure And5 (p1 p2 p3 p4 p5 : Prop) : Prop where
  h1 : p1
  h2 : p2
  h3 : p3
  h4 : p4
  h5 : p5
structure And6 (p1 p2 p3 p4 p5 p6 : Prop) : Prop where
  h1 : p1
  h2 : p2
  h3 : p3
  h4 : p4
  h5 : p5
  h6 : p6
structure And7 (p1 p2 p3 p4 p5 p6 p7 : Prop) : Prop where
  h1 : p1
  h2 : p2
  h3 : p3
  h4 : p4
  h5 : p5
  h6 : p6
  h7 : p7
structure And8 (p1 p2 p3 p4 p5 p6 p7 p8 : Prop) : Prop where
  h1 : p1
  h2 : p2
  h3 : p3
  h4 : p4
  h5 : p5
  h6 : p6
  h7 : p7
  h8 : p8
structure And11 (p1 p2 p3 p4 p5 p6 p7 p8 p9 p10 p11 : Prop) : Prop where
  h1 : p1
  h2 : p2
  h3 : p3
  h4 : p4
  h5 : p5
  h6 : p6
  h7 : p7
  h8 : p8
  h9 : p9
  h10 : p10
  h11 : p11
structure And14 (p1 p2 p3 p4 p5 p6 p7 p8 p9 p10 p11 p12 p13 p14 : Prop) : Prop where
  h1 : p1
  h2 : p2
  h3 : p3
  h4 : p4
  h5 : p5
  h6 : p6
  h7 : p7
  h8 : p8
  h9 : p9
  h10 : p10
  h11 : p11
  h12 : p12
  h13 : p13
  h14 : p14

/-- abstract values -/
inductive AV where
  | none | bool (b : Bool) | int (i : Int) | tup (l : List AV) | range (lo hi : Int) | ref (a : Addr) | val (v : Value) | vals (d : Addr)

/-- abstract objects -/
inductive AO where
  | list (l : List AV)
  | dict (l : List (Int × AV)) (ep : Nat)
  | set (l : List Int)
  | ns (l : List (String × AV))
  | inst (c d : Addr)
  | slots (c d : Addr) (l : List (Option AV))
  | sdict
  | iter (l : Addr) (i : Nat)
  | next (it : Addr)
  | dead
  | script (ns : List Int)

def AO.ro : AO → Prop
  | .script _ => True
  | .sdict => True
  | _ => False

abbrev Hp := Addr → Option AO
def Hp.ins (H : Hp) (a : Addr) (o : AO) : Hp := fun b => if b = a then some o else H b
structure AS where
  loc : String → Option AV
  heap : Hp
def AS.ins (σ : AS) (a : Addr) (o : AO) : AS := { σ with heap := σ.heap.ins a o }
def AS.set (σ : AS) (x : String) (v : AV) : AS := { σ with loc := fun y => if y = x then some v else σ.loc y }

def IsTp (h : Heap) (a : Addr) (vs : List Value) : Prop := ∃ n, h.get? a = some { cls := .type "tuple", data := .seq vs.toArray n }
theorem IsTp.tuple {h : Heap} {a : Addr} {vs : List Value} (x : IsTp h a vs) : h.IsTuple a vs.toArray := let ⟨n, e⟩ := x; ⟨_, e, rfl, n, rfl⟩
mutual
inductive VR (h : Heap) : AV → Value → Prop
  | none : VR h .none .none
  | bool (b : Bool) : VR h (.bool b) (.bool b)
  | int (i : Int) (t : Tok) : VR h (.int i) (.int i t)
  | ref (a : Addr) : VR h (.ref a) (.ref a)
  | val (v : Value) : VR h (.val v) v
  | tup {l : List AV} {vs : List Value} {a : Addr} : IsTp h a vs → VRs h l vs → VR h (.tup l) (.ref a)
  | range {lo hi : Int} {a : Addr} {t u v : Tok} : IsRange h a lo hi 1 t u v → VR h (.range lo hi) (.ref a)
  | vals {d a : Addr} : h.IsValuesView a d → VR h (.vals d) (.ref a)
inductive VRs (h : Heap) : List AV → List Value → Prop
  | nil : VRs h [] []
  | cons {x : AV} {v : Value} {l : List AV} {vs : List Value} : VR h x v → VRs h l vs → VRs h (x :: l) (v :: vs)
end

def Obj.imm (o : Obj) : Prop := (o.cls = .type "tuple" ∧ ∃ xs n, o.data = .seq xs n) ∨ ((o.cls = .type "range" ∨ o.cls = .type "dict_values") ∧ ∃ vs, o.data = .fields vs)
def Imm (h h' : Heap) : Prop := ∀ a o, h.get? a = some o → Obj.imm o → h'.get? a = some o

theorem VR.mono {h h' : Heap} (k : Imm h h') {x : AV} {v : Value} (a : VR h x v) : VR h' x v :=
  VR.rec (motive_1 := fun x v _ => VR h' x v) (motive_2 := fun l vs _ => VRs h' l vs) .none .bool .int .ref .val
    (fun ⟨n, ho⟩ _ ih => .tup ⟨n, k _ _ ho (.inl ⟨rfl, _, _, rfl⟩)⟩ ih) (fun hr => .range (k _ _ hr (.inr ⟨.inl rfl, _, rfl⟩))) (fun ⟨o, ho, hc, r⟩ => .vals ⟨o, k _ _ ho (.inr ⟨.inr hc, _, r⟩), hc, r⟩)
    .nil (fun _ _ a b => .cons a b) a
theorem VRs.mono {h h' : Heap} (k : Imm h h') {l : List AV} {vs : List Value} (x : VRs h l vs) : VRs h' l vs :=
  VRs.rec (motive_1 := fun x v _ => VR h' x v) (motive_2 := fun l vs _ => VRs h' l vs) .none .bool .int .ref .val
    (fun ⟨n, ho⟩ _ ih => .tup ⟨n, k _ _ ho (.inl ⟨rfl, _, _, rfl⟩)⟩ ih) (fun hr => .range (k _ _ hr (.inr ⟨.inl rfl, _, rfl⟩))) (fun ⟨o, ho, hc, r⟩ => .vals ⟨o, k _ _ ho (.inr ⟨.inr hc, _, r⟩), hc, r⟩)
    .nil (fun _ _ a b => .cons a b) x

inductive KV (h : Heap) : List (Int × AV) → List (Int × Value) → Prop
  | nil : KV h [] []
  | cons {k : Int} {x : AV} {v : Value} {l : List (Int × AV)} {vs : List (Int × Value)} : VR h x v → KV h l vs → KV h ((k, x) :: l) ((k, v) :: vs)
theorem KV.mono {h h' : Heap} (k : Imm h h') {l : List (Int × AV)} {vs : List (Int × Value)} (x : KV h l vs) : KV h' l vs := by
  induction x with
  | nil => exact .nil
  | cons a _ ih => exact .cons (a.mono k) ih

inductive OV (h : Heap) : Option AV → Option Value → Prop
  | none : OV h none none
  | some {x : AV} {v : Value} : VR h x v → OV h (some x) (some v)
theorem OV.mono {h h' : Heap} (k : Imm h h') {x : Option AV} {v : Option Value} (a : OV h x v) : OV h' x v := by
  cases a with
  | none => exact .none
  | some a => exact .some (a.mono k)
inductive OVs (h : Heap) : List (Option AV) → List (Option Value) → Prop
  | nil : OVs h [] []
  | cons {x : Option AV} {v : Option Value} {l : List (Option AV)} {vs : List (Option Value)} : OV h x v → OVs h l vs → OVs h (x :: l) (v :: vs)
theorem OVs.mono {h h' : Heap} (k : Imm h h') {l : List (Option AV)} {vs : List (Option Value)} (x : OVs h l vs) : OVs h' l vs := by
  induction x with
  | nil => exact .nil
  | cons a _ ih => exact .cons (a.mono k) ih

/-- the fixed surroundings of a law's run -/
structure Cx where
  prog : Program
  w : World
  s₁ : Shared

def OR (C : Cx) (h : Heap) (ob : Obj) : AO → Prop
  | .list l => ∃ vs n, ob = { cls := .type "list", data := .seq vs n } ∧ VRs h l vs.toList
  | .dict l ep => ob.ExactDict ∧ ∃ es kvs, ob.data = .dict es ep ∧ KeysOf (intKind C.prog C.w) es ∧ Pairs (intKind C.prog C.w) es.toList kvs ∧ (kvs.map (·.1)).Nodup ∧ KV h l kvs
  | .set l => ob.SetObjOf (intKind C.prog C.w) (fun k => decide (k ∈ l)) l.length
  | .ns l => ob.cls = .type "dict" ∧ ∃ es ep, ob.data = .dict es ep ∧ es.size ≤ l.length ∧ StrKeys es ∧ ∀ x : String, OV h (l.lookup x) (nsFind es (Str.ofString x))
  | .inst c d => ob = { cls := .ref c, dict := some d, data := .plain }
  | .slots c d l => ∃ vs : Array (Option Value), ob = { cls := .ref c, dict := some d, data := .plain, slots := vs } ∧ OVs h l vs.toList
  | .sdict => ob.cls = .type "dict"
  | .iter l i => ob = { cls := .type "list_iterator", data := .fields #[.ref l, .int i 0] }
  | .next it => ob = { cls := .type "method-wrapper", data := .fields #[.builtin "list_iterator.__next__", .ref it] }
  | .dead => ob.cls = .type "list_iterator"
  | .script ns => ob.cls = .type "list" ∧ ∃ vs n, ob.data = .seq vs n ∧ IntsAre vs.toList ns

theorem OR.mono {C : Cx} {h h' : Heap} (k : Imm h h') {ob : Obj} {o : AO} (x : OR C h ob o) : OR C h' ob o := by
  cases o with
  | list l => exact let ⟨vs, n, e, r⟩ := x; ⟨vs, n, e, r.mono k⟩
  | dict l ep => exact let ⟨x, es, kvs, a, b, c, d, r⟩ := x; ⟨x, es, kvs, a, b, c, d, r.mono k⟩
  | ns l => exact let ⟨x, es, ep, a, z, b, r⟩ := x; ⟨x, es, ep, a, z, b, fun y => (r y).mono k⟩
  | slots c d l => exact let ⟨vs, e, r⟩ := x; ⟨vs, e, r.mono k⟩
  | _ => exact x

theorem OR.not_imm {C : Cx} {h : Heap} {ob : Obj} {o : AO} (x : OR C h ob o) : ¬ Obj.imm ob := by
  have hc : ob.cls ≠ .type "tuple" ∧ ob.cls ≠ .type "range" ∧ ob.cls ≠ .type "dict_values" := by
    cases o with
    | list l => obtain ⟨vs, n, e, r⟩ := x; subst e; simp
    | dict l ep => rw [x.1.1]; simp
    | set l => rw [x.1.1]; simp
    | ns l => rw [x.1]; simp
    | inst c d => cases x; simp
    | slots c d l => obtain ⟨vs, e, r⟩ := x; subst e; simp
    | sdict => rw [show ob.cls = _ from x]; simp
    | iter l i => cases x; simp
    | next it => cases x; simp
    | dead => rw [show ob.cls = _ from x]; simp
    | script ns => rw [x.1]; simp
  rintro (⟨i, _⟩ | ⟨i | i, _⟩)
  · exact hc.1 i
  · exact hc.2.1 i
  · exact hc.2.2 i

/-- equal but for a frame's slots -/
def Sim (o o' : Obj) : Prop := o'.dict = o.dict ∧ o'.data = o.data ∧ (o.cls ≠ .type "frame" → o'.cls = o.cls ∧ o'.slots = o.slots)
theorem Sim.refl (o : Obj) : Sim o o := ⟨rfl, rfl, fun _ => ⟨rfl, rfl⟩⟩
/-- the names of a frame: plain locals, cells of its own, cells that are read only -/
structure Sc where
  loc : List String
  own : List String
  ro : List String
  gl : List String

abbrev Prt := Addr → Option Obj

/-- an address that is neither the base's, nor protected, nor tracked -/
def Free (C : Cx) (Pr : Prt) (H : Hp) (a : Addr) : Prop := H a = none ∧ Pr a = none ∧ C.s₁.heap.get? a = none

structure Fm (C : Cx) (sc : Sc) (Pr : Prt) (env : Env) (σ : AS) (h : Heap) : Prop where
  loc : ∃ m, h.Ns env.locals m ∧ ∀ x ∈ sc.loc, ∀ v, σ.loc x = some v → ∃ v', m (Str.ofString x) = some v' ∧ VR h v v'
  locF : Free C Pr σ.heap env.locals
  own : ∀ x ∈ sc.own, ∃ c v', env.cells.lookup (Str.ofString x) = some c ∧ h.IsCell c v' ∧ Free C Pr σ.heap c ∧ ∀ v, σ.loc x = some v → ∃ y, v' = some y ∧ VR h v y
  ro : ∀ x ∈ sc.ro, ∃ c o v', env.cells.lookup (Str.ofString x) = some c ∧ Pr c = some o ∧ o.data = .cell v' ∧ ∀ v, σ.loc x = some v → ∃ y, v' = some y ∧ VR h v y

/-- what is fixed of an environment -/
structure EnvOk (sc : Sc) (env : Env) : Prop where
  kind : env.scope.kind = .function
  glob : env.globals = mainGlobals
  blt : env.builtins = builtinsNs
  loc : ∀ x ∈ sc.loc, env.kindOf (Str.ofString x) = some .local
  own : ∀ x ∈ sc.own, env.kindOf (Str.ofString x) = some .cell
  ro : ∀ x ∈ sc.ro, env.kindOf (Str.ofString x) = some .cell ∨ env.kindOf (Str.ofString x) = some .free
  gl : ∀ x ∈ sc.gl, env.kindOf (Str.ofString x) = some .globalImplicit
  inj : ∀ x y c, env.cells.lookup x = some c → env.cells.lookup y = some c → x = y
  apart : ∀ x ∈ sc.loc, x ∉ sc.own ∧ x ∉ sc.ro
  apart2 : ∀ x ∈ sc.own, x ∉ sc.ro

structure RS (C : Cx) (sc : Sc) (Pr : Prt) (env : Env) (σ : AS) (s : Shared) : Prop where
  same : ∃ h t, s = { C.s₁ with heap := h, toks := t }
  keep : ∀ a o, C.s₁.heap.get? a = some o → s.heap.get? a = some o
  prot : ∀ a o, Pr a = some o → ∃ o', s.heap.get? a = some o' ∧ Sim o o'
  trk : ∀ a o, σ.heap a = some o → ∃ ob, s.heap.get? a = some ob ∧ OR C s.heap ob o
  disj : ∀ a o, σ.heap a = some o → (C.s₁.heap.get? a = none ∧ Pr a = none) ∨ (o.ro ∧ C.s₁.heap.get? a ≠ none)
  fr : Fm C sc Pr env σ s.heap
  sl : ∀ a c d l, σ.heap a = some (.slots c d l) → σ.heap d = some .sdict

section
variable {C : Cx} {sc : Sc} {Pr : Prt} {env : Env} {σ : AS} {s : Shared}

theorem ofString_inj {x y : String} (h : Str.ofString x = Str.ofString y) : x = y := by
  rw [Str.ofString_eq_toList, Str.ofString_eq_toList] at h
  have h2 : x.toList.map Char.toNat = y.toList.map Char.toNat := by have := congrArg (fun z => z.cps.toList) h; simpa using this
  have h3 : x.toList = y.toList := by
    refine List.map_inj_right (f := Char.toNat) (fun a b e => ?_) |>.mp h2
    exact Char.ext (UInt32.toNat_inj.mp e)
  exact String.toList_inj.mp h3

/-- an address that matters to a state -/
def Rel (C : Cx) (sc : Sc) (Pr : Prt) (env : Env) (σ : AS) (b : Addr) : Prop :=
  C.s₁.heap.get? b ≠ none ∨ Pr b ≠ none ∨ σ.heap b ≠ none ∨ b = env.locals ∨ ∃ x ∈ sc.own, env.cells.lookup (Str.ofString x) = some b

theorem Fm.imm {h h' : Heap} (F : Fm C sc Pr env σ h) (k : Imm h h')
    (hl : ∀ o, h.get? env.locals = some o → h'.get? env.locals = some o)
    (hc : ∀ x ∈ sc.own, ∀ c o, env.cells.lookup (Str.ofString x) = some c → h.get? c = some o → h'.get? c = some o) : Fm C sc Pr env σ h' := by
  refine ⟨?_, F.locF, ?_, ?_⟩
  · obtain ⟨m, ⟨o, es, ep, ho, r⟩, hm⟩ := F.loc
    exact ⟨m, ⟨o, es, ep, hl _ ho, r⟩, fun x hx v hv => by obtain ⟨v', a, b⟩ := hm x hx v hv; exact ⟨v', a, b.mono k⟩⟩
  · intro x hx
    obtain ⟨c, v', a, ⟨o, ho, hd⟩, f, r⟩ := F.own x hx
    exact ⟨c, v', a, ⟨o, hc x hx c o a ho, hd⟩, f, fun v hv => by obtain ⟨y, e, q⟩ := r v hv; exact ⟨y, e, q.mono k⟩⟩
  · intro x hx
    obtain ⟨c, o, v', a, b, d, r⟩ := F.ro x hx
    exact ⟨c, o, v', a, b, d, fun v hv => by obtain ⟨y, e, q⟩ := r v hv; exact ⟨y, e, q.mono k⟩⟩

theorem RS.same_ht (R : RS C sc Pr env σ s) (h : Heap) (t : Tok) : ∃ h' t', ({ s with heap := h, toks := t } : Shared) = { C.s₁ with heap := h', toks := t' } := by
  obtain ⟨h₁, t₁, rfl⟩ := R.same; exact ⟨h, t, rfl⟩

/-- nothing that matters is turned -/
theorem RS.ext (R : RS C sc Pr env σ s) {h' : Heap} {t : Tok} (k : Imm s.heap h')
    (hk : ∀ b o, Rel C sc Pr env σ b → s.heap.get? b = some o → h'.get? b = some o) : RS C sc Pr env σ { s with heap := h', toks := t } := by
  refine ⟨R.same_ht _ _, fun a o e => hk a o (.inl (by rw [e]; nofun)) (R.keep a o e), fun a o e => ?_, fun a o e => ?_, R.disj, ?_, R.sl⟩
  · obtain ⟨o', a1, a2⟩ := R.prot a o e
    exact ⟨o', hk a o' (.inr (.inl (by rw [e]; nofun))) a1, a2⟩
  · obtain ⟨ob, a1, a2⟩ := R.trk a o e
    exact ⟨ob, hk a ob (.inr (.inr (.inl (by rw [e]; nofun)))) a1, a2.mono k⟩
  · exact R.fr.imm k (fun o e => hk _ o (.inr (.inr (.inr (.inl rfl)))) e) fun x hx c o hc e => hk c o (.inr (.inr (.inr (.inr ⟨x, hx, hc⟩)))) e

theorem RS.keeps (R : RS C sc Pr env σ s) {h' : Heap} {t : Tok} (hk : ∀ b o, s.heap.get? b = some o → h'.get? b = some o) : RS C sc Pr env σ { s with heap := h', toks := t } :=
  R.ext (fun a o e _ => hk a o e) fun b o _ e => hk b o e
theorem RS.toks (R : RS C sc Pr env σ s) (t : Tok) : RS C sc Pr env σ { s with toks := t } := R.keeps (h' := s.heap) fun _ _ e => e

/-- an address that does not matter is turned -/
theorem RS.ext1 (R : RS C sc Pr env σ s) {h' : Heap} {t : Tok} {a : Addr} (hx : Heap.ExtBut a s.heap h') (hn : ¬ Rel C sc Pr env σ a) (hi : ∀ o, s.heap.get? a = some o → ¬ Obj.imm o) :
    RS C sc Pr env σ { s with heap := h', toks := t } :=
  R.ext (fun b o e i => hx b o (by rintro rfl; exact hi _ e i) e) fun b o hb e => hx b o (by rintro rfl; exact hn hb) e

theorem Free.ins {H : Hp} {a b : Addr} {o : AO} (F : Free C Pr H b) (hne : b ≠ a) : Free C Pr (H.ins a o) b := ⟨by unfold Hp.ins; rw [if_neg hne]; exact F.1, F.2⟩

/-- a tracked object is turned, or a new one is laid -/
theorem RS.put (R : RS C sc Pr env σ s) {h' : Heap} {t : Tok} {a : Addr} {ob : Obj} {o : AO} (hx : Heap.ExtBut a s.heap h') (hg : h'.get? a = some ob) (ho : OR C h' ob o)
    (ha : (∃ o₀, σ.heap a = some o₀ ∧ ¬ o₀.ro) ∨ s.heap.get? a = none) (hs : ∀ c d l, o = .slots c d l → σ.heap d = some .sdict := by nofun) : RS C sc Pr env (σ.ins a o) { s with heap := h', toks := t } := by
  have hi : Imm s.heap h' := fun b ob' e i => hx b ob' (by
    rintro rfl
    rcases ha with ⟨o₀, e₀, _⟩ | e₀
    · obtain ⟨ob₀, e₁, e₂⟩ := R.trk _ _ e₀
      rw [e₁] at e; cases e; exact e₂.not_imm i
    · rw [e₀] at e; cases e) e
  have hb : C.s₁.heap.get? a = none := by
    rcases ha with ⟨o₀, e₀, n₀⟩ | e₀
    · exact ((R.disj _ _ e₀).resolve_right fun x => n₀ x.1).1
    · cases q : C.s₁.heap.get? a with
      | none => rfl
      | some o' => have := R.keep _ _ q; rw [e₀] at this; cases this
  have hp : Pr a = none := by
    rcases ha with ⟨o₀, e₀, n₀⟩ | e₀
    · exact ((R.disj _ _ e₀).resolve_right fun x => n₀ x.1).2
    · cases q : Pr a with
      | none => rfl
      | some o' => obtain ⟨o'', e, _⟩ := R.prot _ _ q; rw [e₀] at e; cases e
  have hL : env.locals ≠ a := by
    rintro rfl
    rcases ha with ⟨o₀, e₀, n₀⟩ | e₀
    · rw [R.fr.locF.1] at e₀; cases e₀
    · obtain ⟨m, ⟨o', _, _, h1, _⟩, _⟩ := R.fr.loc; rw [e₀] at h1; cases h1
  have hc : ∀ x ∈ sc.own, ∀ c, env.cells.lookup (Str.ofString x) = some c → c ≠ a := by
    rintro x hx' c e rfl
    obtain ⟨c', v', e', ⟨oc, hoc, _⟩, f, _⟩ := R.fr.own x hx'
    rw [e] at e'; cases e'
    rcases ha with ⟨o₀, e₀, n₀⟩ | e₀
    · rw [f.1] at e₀; cases e₀
    · rw [e₀] at hoc; cases hoc
  have hd : ∀ d, σ.heap d = some .sdict → (σ.ins a o).heap d = some .sdict := by
    intro d e
    have hne : d ≠ a := by
      rintro rfl
      rcases ha with ⟨o₀, e₀, n₀⟩ | e₀
      · rw [e] at e₀; cases e₀; exact n₀ trivial
      · obtain ⟨ob', e₁, _⟩ := R.trk _ _ e; rw [e₀] at e₁; cases e₁
    simp only [AS.ins, Hp.ins, if_neg hne]; exact e
  refine ⟨R.same_ht _ _, fun b o' e => hx b o' (by rintro rfl; rw [hb] at e; cases e) (R.keep b o' e), fun b o' e => ?_, fun b o' e => ?_, fun b o' e => ?_, ?_, fun b c d l e => ?_⟩
  · obtain ⟨o'', a1, a2⟩ := R.prot b o' e
    exact ⟨o'', hx b o'' (by rintro rfl; rw [hp] at e; cases e) a1, a2⟩
  · by_cases q : b = a
    · subst q
      simp only [AS.ins, Hp.ins, if_true] at e; cases e
      exact ⟨ob, hg, ho⟩
    · simp only [AS.ins, Hp.ins, if_neg q] at e
      obtain ⟨ob', a1, a2⟩ := R.trk b o' e
      exact ⟨ob', hx b ob' q a1, a2.mono hi⟩
  · by_cases q : b = a
    · subst q; exact .inl ⟨hb, hp⟩
    · simp only [AS.ins, Hp.ins, if_neg q] at e; exact R.disj b o' e
  · have F := R.fr.imm hi (fun o' e => hx _ o' hL e) fun x hx' c o' e e' => hx c o' (hc x hx' c e) e'
    refine ⟨F.loc, F.locF.ins hL, fun x hx' => ?_, F.ro⟩
    obtain ⟨c, v', a1, a2, a3, a4⟩ := F.own x hx'
    exact ⟨c, v', a1, a2, a3.ins (hc x hx' c a1), a4⟩
  · by_cases q : b = a
    · subst q
      simp only [AS.ins, Hp.ins, if_true, Option.some.injEq] at e
      exact hd d (hs c d l e)
    · simp only [AS.ins, Hp.ins, if_neg q] at e; exact hd d (R.sl b c d l e)

theorem Imm.refl (h : Heap) : Imm h h := fun _ _ e _ => e
theorem Imm.trans {a b c : Heap} (x : Imm a b) (y : Imm b c) : Imm a c := fun k o e i => y k o (x k o e i) i
theorem Imm.of_keeps {h h' : Heap} (k : ∀ b o, h.get? b = some o → h'.get? b = some o) : Imm h h' := fun b o e _ => k b o e
theorem RS.put_imm (R : RS C sc Pr env σ s) {h' : Heap} {a : Addr} (hx : Heap.ExtBut a s.heap h')
    (ha : (∃ o₀, σ.heap a = some o₀ ∧ ¬ o₀.ro) ∨ s.heap.get? a = none) : Imm s.heap h' := fun b ob' e i => hx b ob' (by
    rintro rfl
    rcases ha with ⟨o₀, e₀, _⟩ | e₀
    · obtain ⟨ob₀, e₁, e₂⟩ := R.trk _ _ e₀
      rw [e₁] at e; cases e; exact e₂.not_imm i
    · rw [e₀] at e; cases e) e

/-- a new object at the end of the heap -/
theorem RS.push (R : RS C sc Pr env σ s) {ob : Obj} {o : AO} {t : Tok} (ho : OR C (s.heap.push ob) ob o) (hf : ob.isFreed = false) (hs : ∀ c d l, o = .slots c d l → σ.heap d = some .sdict := by nofun) :
    RS C sc Pr env (σ.ins s.heap.objs.size o) { s with heap := s.heap.push ob, toks := t } :=
  R.put (fun b o' _ e => Heap.get?_push_of_some _ e) (Heap.get?_push_size _ hf) ho (.inr (by
    cases q : s.heap.get? s.heap.objs.size with
    | none => rfl
    | some o' => exact absurd (Heap.lt_size q) (Nat.lt_irrefl _))) hs
theorem RS.fresh (R : RS C sc Pr env σ s) : σ.heap s.heap.objs.size = none := by
  cases q : σ.heap s.heap.objs.size with
  | none => rfl
  | some o => obtain ⟨ob, e, _⟩ := R.trk _ _ q; exact absurd (Heap.lt_size e) (Nat.lt_irrefl _)
theorem push_imm {h : Heap} (ob : Obj) : Imm h (h.push ob) := fun _ _ e _ => Heap.get?_push_of_some _ e

theorem ns_not_imm {h : Heap} {L : Addr} {m : Str → Option Value} (hm : h.Ns L m) {o : Obj} (e : h.get? L = some o) : ¬ Obj.imm o := by
  obtain ⟨o', es, ep, ho, hd, _⟩ := hm
  rw [ho] at e; cases e
  rintro (⟨_, xs, n, q⟩ | ⟨_, vs, q⟩) <;> (rw [hd] at q; cases q)
theorem cell_not_imm {h : Heap} {L : Addr} {v : Option Value} (hm : h.IsCell L v) {o : Obj} (e : h.get? L = some o) : ¬ Obj.imm o := by
  obtain ⟨o', ho, hd⟩ := hm
  rw [ho] at e; cases e
  rintro (⟨_, xs, n, q⟩ | ⟨_, vs, q⟩) <;> (rw [hd] at q; cases q)

/-- a change of the frame's own addresses alone -/
theorem RS.ext_own (R : RS C sc Pr env σ s) {h' : Heap} {t : Tok} {a : Addr} (f : Free C Pr σ.heap a) (hi : ∀ o, s.heap.get? a = some o → ¬ Obj.imm o) (hx : Heap.ExtBut a s.heap h') {lc : String → Option AV}
    (F : Fm C sc Pr env ⟨lc, σ.heap⟩ h') : RS C sc Pr env ⟨lc, σ.heap⟩ { s with heap := h', toks := t } := by
  have k : Imm s.heap h' := fun b o e i => hx b o (by rintro rfl; exact hi _ e i) e
  refine ⟨R.same_ht _ _, fun b o e => hx b o (by rintro rfl; rw [f.2.2] at e; cases e) (R.keep b o e), fun b o e => ?_, fun b o e => ?_, R.disj, F, R.sl⟩
  · obtain ⟨o', a1, a2⟩ := R.prot b o e
    exact ⟨o', hx b o' (by rintro rfl; rw [f.2.1] at e; cases e) a1, a2⟩
  · obtain ⟨ob, a1, a2⟩ := R.trk b o e
    exact ⟨ob, hx b ob (by rintro rfl; rw [f.1] at e; cases e) a1, a2.mono k⟩

/-- a plain local is stored -/
theorem RS.store (R : RS C sc Pr env σ s) (O : EnvOk sc env) {x : String} (hx : x ∈ sc.loc) {v : AV} {v' : Value} (hv : VR s.heap v v') {m : Str → Option Value} (hm : s.heap.Ns env.locals m)
    (hr : ∀ x ∈ sc.loc, ∀ v, σ.loc x = some v → ∃ v', m (Str.ofString x) = some v' ∧ VR s.heap v v') {h' : Heap} {t : Tok}
    (hn : h'.Ns env.locals (fun y => if y = Str.ofString x then some v' else m y)) (hs : Heap.SameBut env.locals s.heap h') : RS C sc Pr env (σ.set x v) { s with heap := h', toks := t } := by
  have k : Imm s.heap h' := fun b o e i => hs.extBut b o (by rintro rfl; exact ns_not_imm hm e i) e
  refine R.ext_own R.fr.locF (fun o e => ns_not_imm hm e) hs.extBut ⟨⟨_, hn, fun y hy w hw => ?_⟩, R.fr.locF, fun y hy => ?_, fun y hy => ?_⟩
  · by_cases q : y = x
    · subst q
      simp only [if_true] at hw ⊢; cases hw
      exact ⟨v', rfl, hv.mono k⟩
    · simp only [if_neg q] at hw
      obtain ⟨w', a1, a2⟩ := hr y hy w hw
      exact ⟨w', by rw [if_neg (fun e => q (ofString_inj e))]; exact a1, a2.mono k⟩
  · obtain ⟨c, w', a1, ⟨oc, a2, a2'⟩, a3, a4⟩ := R.fr.own y hy
    have hne : c ≠ env.locals := by
      rintro rfl
      obtain ⟨o', es, ep, ho, hd, _⟩ := hm
      rw [ho] at a2; cases a2; rw [hd] at a2'; cases a2'
    refine ⟨c, w', a1, ⟨oc, hs.extBut c oc hne a2, a2'⟩, a3, fun w hw => ?_⟩
    have q : y ≠ x := by rintro rfl; exact (O.apart y hx).1 hy
    simp only [if_neg q] at hw
    obtain ⟨z, b1, b2⟩ := a4 w hw
    exact ⟨z, b1, b2.mono k⟩
  · obtain ⟨c, o, w', a1, a2, a3, a4⟩ := R.fr.ro y hy
    refine ⟨c, o, w', a1, a2, a3, fun w hw => ?_⟩
    have q : y ≠ x := by rintro rfl; exact (O.apart y hx).2 hy
    simp only [if_neg q] at hw
    obtain ⟨z, b1, b2⟩ := a4 w hw
    exact ⟨z, b1, b2.mono k⟩

/-- a cell of the frame's own is stored -/
theorem RS.storeC (R : RS C sc Pr env σ s) (O : EnvOk sc env) {x : String} (hx : x ∈ sc.own) {v : AV} {v' : Value} (hv : VR s.heap v v') {c : Addr} (hc : env.cells.lookup (Str.ofString x) = some c) {h' : Heap} {t : Tok}
    (hn : h'.IsCell c (some v')) (hs : Heap.SameBut c s.heap h') : RS C sc Pr env (σ.set x v) { s with heap := h', toks := t } := by
  obtain ⟨c', u, a1, a2, a3, a4⟩ := R.fr.own x hx
  rw [hc] at a1; cases a1
  have k : Imm s.heap h' := fun b o e i => hs.extBut b o (by rintro rfl; exact cell_not_imm a2 e i) e
  refine R.ext_own a3 (fun o e => cell_not_imm a2 e) hs.extBut ⟨?_, R.fr.locF, fun y hy => ?_, fun y hy => ?_⟩
  · obtain ⟨m, hm, hr⟩ := R.fr.loc
    have hne : env.locals ≠ c := by
      rintro rfl
      obtain ⟨o', es, ep, ho, hd, _⟩ := hm
      obtain ⟨oc, b1, b2⟩ := a2
      rw [ho] at b1; cases b1; rw [hd] at b2; cases b2
    refine ⟨m, hm.sameBut hs hne, fun y hy w hw => ?_⟩
    have q : y ≠ x := by rintro rfl; exact (O.apart y hy).1 hx
    simp only [if_neg q] at hw
    obtain ⟨z, b1, b2⟩ := hr y hy w hw
    exact ⟨z, b1, b2.mono k⟩
  · by_cases q : y = x
    · subst q
      refine ⟨c, some v', hc, hn, a3, fun w hw => ?_⟩
      simp only [if_true] at hw; cases hw
      exact ⟨v', rfl, hv.mono k⟩
    · obtain ⟨d, w', b1, ⟨od, b2, b2'⟩, b3, b4⟩ := R.fr.own y hy
      have hne : d ≠ c := by rintro rfl; exact q (ofString_inj (O.inj _ _ _ b1 hc))
      refine ⟨d, w', b1, ⟨od, hs.extBut d od hne b2, b2'⟩, b3, fun w hw => ?_⟩
      simp only [if_neg q] at hw
      obtain ⟨z, c1, c2⟩ := b4 w hw
      exact ⟨z, c1, c2.mono k⟩
  · obtain ⟨d, o, w', b1, b2, b3, b4⟩ := R.fr.ro y hy
    refine ⟨d, o, w', b1, b2, b3, fun w hw => ?_⟩
    have q : y ≠ x := by rintro rfl; exact (O.apart2 y hx) hy
    simp only [if_neg q] at hw
    obtain ⟨z, c1, c2⟩ := b4 w hw
    exact ⟨z, c1, c2.mono k⟩

end
end Mine

end

section
open PySem PySem.W PyProof.Rows PySem.Calls
set_option Elab.async false
set_option backward.match.sparseCases false
set_option maxRecDepth 100000
namespace Mine
set_option genSizeOf false
set_option genInjectivity false

inductive AF where
  | next | brk | cont | ret (v : AV) | exc

abbrev VK := AV → AS → Prop
/-- built-in functions and types that are called by name -/
inductive Prim where
  | len | range | sum | min | max | sorted | list | tuple | set | iter | isinstance | type

inductive MT where
  | name (x : String)
  | tup (xs : List String)

mutual
inductive ME where
  | const (v : AV)
  | gl (x : String) (v : AV)
  | var (x : String)
  | bin (op : Operator) (l r : ME)
  | neg (e : ME)
  | cmp (op : CmpOp) (l r : ME)
  | ife (c : MC) (a b : ME)
  | walrus (x : String) (e : ME)
  | pcall (p : Prim) (as : List ME)
  | fcall (f : Addr) (as : List ME)
  | ncall (c : Addr) (as : List ME)
  | meth (o : ME) (m : String) (as : List ME)
  | methS (o : ME) (m : String) (a : ME)
  | attr (o : ME) (m : String)
  | sub (o i : ME)
  | slice (o : ME) (lo hi : Option ME)
  | list (es : List ME)
  | tup (es : List ME)
  | dict0
  | comp (vs : List String) (elt : ME) (t : MT) (it : ME) (ifs : List MC) (gs : List MG)
inductive MC where
  | plain (e : ME)
  | not (c : MC)
  | and (cs : List MC)
  | or (cs : List MC)
  | cmp (op : CmpOp) (l r : ME)
inductive MG where
  | mk (t : MT) (it : ME) (ifs : List MC)
end

inductive MTgt where
  | name (x : String)
  | tup (xs : List String)
  | attr (o : ME) (m : String)
  | sub (o i : ME)

inductive MS where
  | assign (t : MTgt) (e : ME)
  | assign2 (t u : MTgt) (e : ME)
  | augSub (o i : ME) (op : Operator) (e : ME)
  | augAttr (o : ME) (m : String) (op : Operator) (e : ME)
  | expr (e : ME)
  | ret (e : ME)
  | ifS (c : MC) (a b : List MS)
  | whileS (c : MC) (body els : List MS)
  | forS (t : MT) (it : ME) (body : List MS)
  | brk | cont | pass
  | tryNext (x its d st : String)
  | tryCall (o : ME) (m : String) (h : List MS)
  | raiseC (a : ME)
  | never

/-- a def of the text: its parameters, the name of its star parameter, defaults by name, its body -/
structure Fn where
  params : List String
  vararg : Option String
  dflt : List (String × AV)
  body : List MS

/-- the tables of a text: methods of its classes, slots' names, the __init__ -/
structure Tb where
  meth : Addr → String → Option Addr
  attrs : Addr → List String
  slots : Addr → Option (List String)
  fn : Addr → Option Fn

def rangeL (lo hi : Int) : List Int := (List.range (hi - lo).toNat).map fun k => lo + (k : Nat)

section sem
variable (T : Tb)

def refW (b : AV) (K : Addr → Prop) : Prop := match b with
  | .ref b => K b
  | _ => False
/-- of two ints -/
def intsW (a b : AV) (K : Int → Int → Prop) : Prop := match a, b with
  | .int a, .int b => K a b
  | _, _ => False
/-- of two ints, or of a list and something -/
def intsR (a b : AV) (K : Int → Int → Prop) (L : Addr → AV → Prop) : Prop := match a with
  | .ref a => L a b
  | a => intsW a b K
def binW (op : Operator) (a b : AV) (Q : VK) (σ : AS) : Prop :=
  match op with
  | .Add => intsR a b (fun a b => Q (.int (a + b)) σ) fun a b => refW b fun b => ∃ l l', σ.heap a = some (.list l) ∧ σ.heap b = some (.list l') ∧ l.length < 1000000 ∧ l'.length < 1000000 ∧ ∀ c, σ.heap c = none → Q (.ref c) (σ.ins c (.list (l ++ l')))
  | .Mult => intsW a b (fun a b => a.natAbs < 2 ^ 30 ∧ b.natAbs < 2 ^ 30 ∧ Q (.int (a * b)) σ)
  | .Sub => intsW a b fun a b => Q (.int (a - b)) σ
  | .FloorDiv => intsW a b fun a b => b ≠ 0 ∧ Q (.int (a.fdiv b)) σ
  | .Mod => intsW a b fun a b => b ≠ 0 ∧ Q (.int (a.fmod b)) σ
  | .Pow => intsW a b fun a b => 0 ≤ b ∧ b ≤ 1000000 ∧ a.natAbs < 2 ^ 64 ∧ Q (.int (a ^ b.toNat)) σ
  | .RShift => intsW a b fun a b => 0 ≤ b ∧ Q (.int (a.fdiv (2 ^ b.toNat))) σ
  | .BitAnd => intsW a b fun a b => Q (.int (Builtin.bitAnd a b)) σ
  | .BitOr => intsW a b fun a b => Q (.int (Builtin.bitOr a b)) σ
  | .BitXor => intsW a b fun a b => Q (.int (Builtin.bitXor a b)) σ
  | _ => False

/-- the ints of a tracked list -/
def IsInts (σ : AS) (a : Addr) (ns : List Int) : Prop := σ.heap a = some (.list (ns.map .int)) ∧ ns.length < 1000000

def pairOf : Int × Int → AV := fun p => .tup [.int p.1, .int p.2]

/-- a pair of ints -/
def pairW (l : List AV) (K : Int → Int → Prop) : Prop := match l with
  | [.int i, .int j] => K i j
  | _ => False
def inW (x c : AV) (Q : Bool → Prop) (σ : AS) : Prop :=
  match x with
  | .int k => refW c fun a => match σ.heap a with
    | some (.list l) => ∃ ns : List Int, l = ns.map .int ∧ ns.length < 1000000 ∧ Q (decide (k ∈ ns))
    | some (.dict l _) => Q (decide (k ∈ l.map (·.1)))
    | some (.set l) => l.length < 4000 ∧ Q (decide (k ∈ l))
    | _ => False
  | .tup l => pairW l fun i j => refW c fun a => ∃ ps : List (Int × Int), σ.heap a = some (.list (ps.map pairOf)) ∧ ps.length < 1000000 ∧ Q (decide ((i, j) ∈ ps))
  | _ => False

def isW (x y : AV) (Q : Bool → Prop) : Prop :=
  match x with
  | .ref a => match y with
    | .none => Q false
    | .ref b => a = b ∧ Q true
    | _ => False
  | .none => match y with
    | .none => Q true
    | _ => False
  | .val u => match u with
    | .type m => match y with
      | .val v => match v with
        | .type n => Q (decide (m = n))
        | _ => False
      | _ => False
    | _ => False
  | _ => False

def eqW (x y : AV) (Q : Bool → Prop) (σ : AS) : Prop :=
  intsR x y (fun a b => Q (a == b)) fun a y => refW y fun b => ∃ ns ms, IsInts σ a ns ∧ IsInts σ b ms ∧ Q (decide (ns = ms))
def eqbW (x y : AV) (Q : Bool → Prop) (σ : AS) : Prop := match x with
  | .bool a => match y with
    | .bool b => Q (a == b)
    | _ => False
  | x => eqW x y Q σ

def cmpW (op : CmpOp) (a b : AV) (Q : Bool → Prop) (σ : AS) : Prop :=
  match op with
  | .Eq => eqbW a b Q σ
  | .NotEq => eqW a b (fun r => Q (!r)) σ
  | .Lt => intsW a b fun a b => Q (decide (a < b))
  | .Gt => intsW a b fun a b => Q (decide (b < a))
  | .GtE => intsW a b fun a b => Q (decide (b ≤ a))
  | .Is => isW a b Q
  | .IsNot => isW a b (fun r => Q (!r))
  | .In => inW a b Q σ
  | .NotIn => inW a b (fun r => Q (!r)) σ
  | _ => False

def truthW (v : AV) (Q : Bool → Prop) (σ : AS) : Prop :=
  match v with
  | .bool b => Q b
  | .none => Q false
  | .int i => Q (i != 0)
  | .ref a => ∃ l, σ.heap a = some (.list l) ∧ l.length < 1000000 ∧ Q (!l.isEmpty)
  | _ => False

/-- an item -/
def subW (o i : AV) (Q : VK) (σ : AS) : Prop :=
  match o, i with
  | .ref a, .int k => match σ.heap a with
    | some (.list l) => l.length < 1000000 ∧ ∃ v, ((0 ≤ k ∧ l[k.toNat]? = some v) ∨ (k < 0 ∧ -(l.length : Int) ≤ k ∧ l[(k + l.length).toNat]? = some v)) ∧ Q v σ
    | some (.script ns) => 0 ≤ k ∧ ∃ n, ns[k.toNat]? = some n ∧ ns.length < 1000000 ∧ Q (.int n) σ
    | some (.dict l _) => ∃ v, l.lookup k = some v ∧ Q v σ
    | _ => False
  | _, _ => False

/-- Python's cut of a list, by steps of one -/
def cutL (l : List AV) (lo hi : Option Int) : List AV :=
  let n : Int := l.length
  let fix (i : Int) : Int := max 0 (min (if i < 0 then i + n else i) n)
  let a := match lo with | some i => fix i | none => 0
  let b := match hi with | some i => fix i | none => n
  (l.drop a.toNat).take (b - a).toNat

def setItemW (o i v : AV) (Q : AS → Prop) (σ : AS) : Prop :=
  match o, i with
  | .ref a, .int k => match σ.heap a with
    | some (.list l) => 0 ≤ k ∧ k < l.length ∧ l.length < 1000000 ∧ Q (σ.ins a (.list (l.set k.toNat v)))
    | some (.dict l _) => l.length < 1000000 ∧ ∀ ep, Q (σ.ins a (.dict (if (l.lookup k).isSome then l.map (fun p => if p.1 = k then (p.1, v) else p) else l ++ [(k, v)]) ep))
    | _ => False
  | _, _ => False

/-- a value that an attribute may hold -/
def AV.plain : AV → Prop
  | .val _ => False
  | _ => True

def getAttrW (o : AV) (m : String) (Q : VK) (σ : AS) : Prop :=
  match o with
  | .ref a => match σ.heap a with
    | some (.inst c d) => m ∈ T.attrs c ∧ ∃ l v, σ.heap d = some (.ns l) ∧ l.lookup m = some v ∧ v.plain ∧ Q v σ
    | some (.slots c _ l) => ∃ ss k v, T.slots c = some ss ∧ ss.idxOf? m = some k ∧ l[k]? = some (some v) ∧ v.plain ∧ Q v σ
    | some (.iter _ _) => m = "__next__" ∧ ∀ b, σ.heap b = none → Q (.ref b) (σ.ins b (.next a))
    | _ => False
  | _ => False

def nsPut (l : List (String × AV)) (m : String) (v : AV) : List (String × AV) :=
  if (l.lookup m).isSome then l.map (fun p => if p.1 = m then (m, v) else p) else l ++ [(m, v)]

def setAttrW (o : AV) (m : String) (v : AV) (Q : AS → Prop) (σ : AS) : Prop :=
  match o with
  | .ref a => match σ.heap a with
    | some (.inst c d) => m ∈ T.attrs c ∧ ∃ l, σ.heap d = some (.ns l) ∧ l.length < 1000 ∧ Q (σ.ins d (.ns (nsPut l m v)))
    | some (.slots c d l) => ∃ ss k, T.slots c = some ss ∧ ss.idxOf? m = some k ∧ Q (σ.ins a (.slots c d ((l ++ List.replicate (k + 1 - l.length) none).set k (some v))))
    | _ => False
  | _ => False

/-- of one object -/
def ref1 (as : List AV) (K : Addr → Prop) : Prop := match as with
  | [.ref a] => K a
  | _ => False
def tupOr (as : List AV) (L : List AV → Prop) (P : Prop) : Prop := match as with
  | [.tup l] => L l
  | _ => P
def int2Or (as : List AV) (K : Int → Int → Prop) (P : Prop) : Prop := match as with
  | [.int a, .int b] => K a b
  | _ => P
def int1 (as : List AV) (K : Int → Prop) : Prop := match as with
  | [.int a] => K a
  | _ => False
def primW (p : Prim) (as : List AV) (Q : VK) (σ : AS) : Prop :=
  match p with
  | .len => tupOr as (fun l => l.length < 1000000 ∧ Q (.int l.length) σ) (ref1 as fun a => match σ.heap a with
    | some (.list l) => l.length < 1000000 ∧ Q (.int l.length) σ
    | some (.script l) => l.length < 1000000 ∧ Q (.int l.length) σ
    | _ => False)
  | .range => int2Or as (fun m n => m.natAbs < 2 ^ 60 ∧ n.natAbs < 2 ^ 60 ∧ Q (.range m n) σ) (int1 as fun n => n.natAbs < 2 ^ 60 ∧ Q (.range 0 n) σ)
  | .sum => ref1 as fun a => ∃ ns, σ.heap a = some (.script ns) ∧ ns.length < 1000000 ∧ Q (.int ns.sum) σ
  | .min => int2Or as (fun a b => Q (.int (if b < a then b else a)) σ) (ref1 as fun a => ∃ ns, IsInts σ a ns ∧ ns ≠ [] ∧ ∀ k, k ∈ ns → (∀ j ∈ ns, k ≤ j) → Q (.int k) σ)
  | .max => int2Or as (fun a b => Q (.int (if a < b then b else a)) σ) False
  | .sorted => tupOr as (fun l => ∃ ns : List Int, l = ns.map .int ∧ ns.length < 64 ∧ ∀ (ms : List Int) (b : Addr), ms.Perm ns → ms.Pairwise (· ≤ ·) → σ.heap b = none → Q (.ref b) (σ.ins b (.list (ms.map .int))))
    (ref1 as fun a => ∃ ns : List Int, IsInts σ a ns ∧ ns.length < 64 ∧ ∀ (ms : List Int) (b : Addr), ms.Perm ns → ms.Pairwise (· ≤ ·) → σ.heap b = none → Q (.ref b) (σ.ins b (.list (ms.map .int))))
  | .list => match as with
    | [.range lo hi] => lo.natAbs < 1000000 ∧ hi.natAbs < 1000000 ∧ ∀ b, σ.heap b = none → Q (.ref b) (σ.ins b (.list ((rangeL lo hi).map .int)))
    | _ => False
  | .tuple => ref1 as fun a => ∃ l, σ.heap a = some (.list l) ∧ l.length < 1000000 ∧ Q (.tup l) σ
  | .set => match as with
    | [] => ∀ b, σ.heap b = none → Q (.ref b) (σ.ins b (.set []))
    | _ => False
  | .iter => ref1 as fun a => ∃ l, σ.heap a = some (.list l) ∧ ∀ b, σ.heap b = none → Q (.ref b) (σ.ins b (.iter a 0))
  | .isinstance => match as with
    | [.ref a, .val (.type n)] => n = "list" ∧ ∃ l, σ.heap a = some (.list l) ∧ Q (.bool true) σ
    | _ => False
  | .type => int1 as fun _ => Q (.val (.type "int")) σ

/-- a method of a list, a dict or a set -/
def biMethW (a : Addr) (o : AO) (m : String) (as : List AV) (Q : VK) (σ : AS) : Prop :=
  match o with
  | .list l => l.length < 1000000 ∧
    if m = "append" then ∃ v, as = [v] ∧ Q .none (σ.ins a (.list (l ++ [v])))
    else if m = "extend" then (∃ l', as = [.tup l'] ∧ l'.length < 1000000 ∧ Q .none (σ.ins a (.list (l ++ l')))) ∨ (∃ b l', as = [.ref b] ∧ σ.heap b = some (.list l') ∧ l'.length < 1000000 ∧ Q .none (σ.ins a (.list (l ++ l'))))
    else if m = "pop" then (as = [] ∧ ∃ l' v, l = l' ++ [v] ∧ Q v (σ.ins a (.list l'))) ∨ (∃ k v, as = [.int k] ∧ 0 ≤ k ∧ l[k.toNat]? = some v ∧ Q v (σ.ins a (.list (l.eraseIdx k.toNat))))
    else if m = "clear" then as = [] ∧ Q .none (σ.ins a (.list []))
    else if m = "index" then ∃ (k : Int) (ns : List Int), as = [.int k] ∧ l = ns.map .int ∧ k ∈ ns ∧ Q (.int (ns.idxOf k : Nat)) σ
    else if m = "count" then ∃ (k : Int) (ns : List Int), as = [.int k] ∧ l = ns.map .int ∧ Q (.int (ns.count k : Nat)) σ
    else False
  | .dict l _ =>
    if m = "get" then ∃ k, as = [.int k] ∧ Q ((l.lookup k).getD .none) σ
    else if m = "values" then as = [] ∧ Q (.vals a) σ
    else False
  | .set l =>
    if m = "add" then ∃ k, as = [.int k] ∧ l.length < 4000 ∧ Q .none (σ.ins a (.set (if k ∈ l then l else k :: l)))
    else False
  | _ => False


/-- the items that a loop takes, and what must stay as it is -/
def iterW (src : AV) (K : (AS → Prop) → List AV → Prop) (σ : AS) : Prop :=
  match src with
  | .ref a => match σ.heap a with
    | some (.list l) => K (fun τ => τ.heap a = some (.list l)) l
    | some (.dict l ep) => K (fun τ => τ.heap a = some (.dict l ep)) (l.map fun p => .int p.1)
    | _ => False
  | .tup l => K (fun _ => True) l
  | .range lo hi => lo.natAbs < 2 ^ 60 ∧ hi.natAbs < 2 ^ 60 ∧ K (fun _ => True) ((rangeL lo hi).map .int)
  | .vals d => match σ.heap d with
    | some (.dict l ep) => K (fun τ => τ.heap d = some (.dict l ep)) (l.map (·.2))
    | _ => False
  | _ => False

abbrev LK := List AV → AS → Prop

def loopW (chk : AS → Prop) (step : AV → List AV → LK → AS → Prop) : List AV → List AV → LK → AS → Prop
  | [], acc, K, σ => chk σ ∧ K acc σ
  | v :: r, acc, K, σ => chk σ ∧ step v acc (fun acc' σ' => loopW chk step r acc' K σ') σ

def AS.setAll (σ : AS) : List String → List AV → AS
  | x :: xs, v :: vs => (σ.set x v).setAll xs vs
  | _, _ => σ

def bindT (t : MT) (v : AV) (K : AS → Prop) (σ : AS) : Prop :=
  match t with
  | .name x => K (σ.set x v)
  | .tup xs => ∃ vs, v = .tup vs ∧ vs.length = xs.length ∧ K (σ.setAll xs vs)

def asInt? : Option AV → Option (Option Int)
  | none => some none
  | some (.int i) => some (some i)
  | some _ => none

def sliceW (o : AV) (lo hi : Option AV) (Q : VK) (σ : AS) : Prop :=
  ∃ a l i j, o = .ref a ∧ σ.heap a = some (.list l) ∧ l.length < 1000000 ∧ asInt? lo = some i ∧ asInt? hi = some j ∧ ∀ b, σ.heap b = none → Q (.ref b) (σ.ins b (.list (cutL l i j)))

/-- a call's meaning: of the def at an address; the second ending is the raise of the text's own exception -/
abbrev CT := Addr → List AV → VK → (AS → Prop) → AS → Prop

/-- whose method it is, found ahead of the arguments -/
def calleeW (o : AV) (m : String) (K : (List AV → VK → (AS → Prop) → AS → Prop) → Prop) (ct : CT) (σ : AS) : Prop :=
  match o with
  | .ref a => match σ.heap a with
    | some (.inst c d) => ∃ l f, σ.heap d = some (.ns l) ∧ l.lookup m = none ∧ T.meth c m = some f ∧ K (fun as Q X τ => ct f (.ref a :: as) Q X τ)
    | some (.list _) => m ∈ ["append", "extend", "pop", "clear", "index", "count"] ∧ K (fun as Q _ τ => ∃ l, τ.heap a = some (.list l) ∧ biMethW a (.list l) m as Q τ)
    | some (.dict _ _) => m ∈ ["get", "values"] ∧ K (fun as Q _ τ => ∃ l ep, τ.heap a = some (.dict l ep) ∧ biMethW a (.dict l ep) m as Q τ)
    | some (.set l₀) => m ∈ ["add"] ∧ l₀.length < 4000 ∧ K (fun as Q _ τ => ∃ l, τ.heap a = some (.set l) ∧ biMethW a (.set l) m as Q τ)
    | _ => False
  | _ => False

/-- a new instance of a class of the text -/
def newW (c : Addr) (as : List AV) (ct : CT) (Q : VK) (σ : AS) : Prop :=
  match T.slots c with
  | some _ => ∃ f, T.meth c "__init__" = some f ∧ ∀ a d, σ.heap a = none → σ.heap d = none → a ≠ d →
      ct f (.ref a :: as) (fun v τ => v = .none ∧ Q (.ref a) τ) (fun _ => False) ((σ.ins d .sdict).ins a (.slots c d []))
  | none => ∃ f, T.meth c "__init__" = some f ∧ ∀ a d, σ.heap a = none → σ.heap d = none → a ≠ d →
      ct f (.ref a :: as) (fun v τ => v = .none ∧ Q (.ref a) τ) (fun _ => False) ((σ.ins d (.ns [])).ins a (.inst c d))

variable (ct : CT)
mutual
def evalW : ME → VK → AS → Prop
  | .const v, Q, σ => Q v σ
  | .gl _ v, Q, σ => Q v σ
  | .var x, Q, σ => ∃ v, σ.loc x = some v ∧ Q v σ
  | .bin op l r, Q, σ => evalW l (fun a σ₁ => evalW r (fun b σ₂ => binW op a b Q σ₂) σ₁) σ
  | .neg e, Q, σ => evalW e (fun a σ₁ => ∃ i, a = .int i ∧ Q (.int (-i)) σ₁) σ
  | .cmp op l r, Q, σ => evalW l (fun a σ₁ => evalW r (fun b σ₂ => cmpW op a b (fun c => Q (.bool c) σ₂) σ₂) σ₁) σ
  | .ife c a b, Q, σ => condW c (fun t σ₁ => if t then evalW a Q σ₁ else evalW b Q σ₁) σ
  | .walrus x e, Q, σ => evalW e (fun v σ₁ => Q v (σ₁.set x v)) σ
  | .pcall p as, Q, σ => evalsW as (fun vs σ₁ => primW p vs Q σ₁) σ
  | .fcall f as, Q, σ => evalsW as (fun vs σ₁ => ct f vs Q (fun _ => False) σ₁) σ
  | .ncall c as, Q, σ => evalsW as (fun vs σ₁ => newW T c vs ct Q σ₁) σ
  | .meth o m as, Q, σ => evalW o (fun ov σ₁ => calleeW T ov m (fun f => evalsW as (fun vs σ₂ => f vs Q (fun _ => False) σ₂) σ₁) ct σ₁) σ
  | .methS o m a, Q, σ => evalW o (fun ov σ₁ => ∃ x c dd l f, ov = .ref x ∧ σ₁.heap x = some (.inst c dd) ∧ σ₁.heap dd = some (.ns l) ∧ l.lookup m = none ∧ T.meth c m = some f ∧ evalW a (fun v σ₂ => ∃ vs, v = .tup vs ∧ vs.length < 1000000 ∧ ct f (.ref x :: vs) Q (fun _ => False) σ₂) σ₁) σ
  | .attr o m, Q, σ => evalW o (fun ov σ₁ => getAttrW T ov m Q σ₁) σ
  | .sub o i, Q, σ => evalW o (fun ov σ₁ => evalW i (fun iv σ₂ => subW ov iv Q σ₂) σ₁) σ
  | .slice o lo hi, Q, σ => evalW o (fun ov σ₁ => evalOW lo (fun l σ₂ => evalOW hi (fun h σ₃ => sliceW ov l h Q σ₃) σ₂) σ₁) σ
  | .list es, Q, σ => evalsW es (fun vs σ₁ => ∀ a, σ₁.heap a = none → Q (.ref a) (σ₁.ins a (.list vs))) σ
  | .tup es, Q, σ => evalsW es (fun vs σ₁ => Q (.tup vs) σ₁) σ
  | .dict0, Q, σ => ∀ a, σ.heap a = none → Q (.ref a) (σ.ins a (.dict [] 0))
  | .comp vs elt t it ifs gs, Q, σ => evalW it (fun src σ₁ => iterW src (fun chk items =>
      loopW chk (fun v acc k τ => bindT t v (fun τ₁ => condsW ifs (fun b τ₂ => if b then compW gs (fun acc k τ => evalW elt (fun v σ₁ => acc.length < 1000000 ∧ k (acc ++ [v]) σ₁) τ) acc k τ₂ else k acc τ₂) τ₁) τ) items []
        (fun acc τ => ∀ a, τ.heap a = none → Q (.ref a) (AS.ins ⟨σ₁.loc, τ.heap⟩ a (.list acc))) ⟨fun x => if x ∈ vs then none else σ₁.loc x, σ₁.heap⟩) σ₁) σ
def evalsW : List ME → LK → AS → Prop
  | [], K, σ => K [] σ
  | e :: r, K, σ => evalW e (fun v σ₁ => evalsW r (fun vs σ₂ => K (v :: vs) σ₂) σ₁) σ
def evalOW : Option ME → (Option AV → AS → Prop) → AS → Prop
  | none, K, σ => K none σ
  | some e, K, σ => evalW e (fun v σ₁ => K (some v) σ₁) σ
def condW : MC → (Bool → AS → Prop) → AS → Prop
  | .plain e, K, σ => evalW e (fun v σ₁ => truthW v (fun b => K b σ₁) σ₁) σ
  | .not c, K, σ => condW c (fun b σ₁ => K (!b) σ₁) σ
  | .and cs, K, σ => condsW cs K σ
  | .or cs, K, σ => condsOW cs K σ
  | .cmp op l r, K, σ => evalW l (fun a σ₁ => evalW r (fun b σ₂ => cmpW op a b (fun c => K c σ₂) σ₂) σ₁) σ
def condsW : List MC → (Bool → AS → Prop) → AS → Prop
  | [], K, σ => K true σ
  | c :: r, K, σ => condW c (fun b σ₁ => if b then condsW r K σ₁ else K false σ₁) σ
def condsOW : List MC → (Bool → AS → Prop) → AS → Prop
  | [], K, σ => K false σ
  | c :: r, K, σ => condW c (fun b σ₁ => if b then K true σ₁ else condsOW r K σ₁) σ
def compW : List MG → (List AV → LK → AS → Prop) → List AV → LK → AS → Prop
  | [], fin, acc, k, σ => fin acc k σ
  | .mk t it ifs :: gs, fin, acc, k, σ => evalW it (fun src σ₁ => iterW src (fun chk items =>
      loopW chk (fun v acc k τ => bindT t v (fun τ₁ => condsW ifs (fun b τ₂ => if b then compW gs fin acc k τ₂ else k acc τ₂) τ₁) τ) items acc k σ₁) σ₁) σ
end

abbrev FK := AF → AS → Prop

def assignW (t : MTgt) (v : AV) (K : AS → Prop) (σ : AS) : Prop :=
  match t with
  | .name x => K (σ.set x v)
  | .tup xs => ∃ vs, v = .tup vs ∧ vs.length = xs.length ∧ K (σ.setAll xs vs)
  | .attr o m => evalW T ct o (fun ov σ₁ => setAttrW T ov m v K σ₁) σ
  | .sub o i => evalW T ct o (fun ov σ₁ => evalW T ct i (fun iv σ₂ => setItemW ov iv v K σ₂) σ₁) σ

def forLoopW (chk : AS → Prop) (body : AV → FK → AS → Prop) : List AV → FK → AS → Prop
  | [], Q, σ => chk σ ∧ Q .next σ
  | v :: r, Q, σ => chk σ ∧ body v (fun f τ => match f with | .next | .cont => forLoopW chk body r Q τ | .brk => Q .next τ | .ret v => Q (.ret v) τ | .exc => False) σ

/-- «try: x = its[-1](); break» with «except StopIteration: del d[st.pop()]; its.pop()» -/
def tryNextW (x its d st : String) (Q : FK) (σ : AS) : Prop :=
  ∃ ia l' nx it la i items, And8 (σ.loc its = some (.ref ia)) (σ.heap ia = some (.list (l' ++ [.ref nx]))) (l'.length < 900000) (σ.heap nx = some (.next it)) (σ.heap it = some (.iter la i)) (σ.heap la = some (.list items)) (items.length < 1000000) (((∃ v, items[i]? = some v ∧ Q .brk ((σ.ins it (.iter la (i + 1))).set x v)) ∨
     (items[i]? = none ∧ ∃ da es ep sa st' k, And11 (σ.loc d = some (.ref da)) (σ.heap da = some (.dict es ep)) (σ.loc st = some (.ref sa)) (σ.heap sa = some (.list (st' ++ [.int k]))) (st'.length < 900000) (es.length < 1000000) ((es.lookup k).isSome) (da ≠ sa) (sa ≠ ia) (da ≠ ia) (∀ ep', Q .next ((((σ.ins it .dead).ins sa (.list st')).ins da (.dict (es.filter fun p => p.1 != k) ep')).ins ia (.list l'))))))

mutual
def execW : MS → FK → AS → Prop
  | .assign t e, Q, σ => evalW T ct e (fun v σ₁ => assignW T ct t v (fun σ₂ => Q .next σ₂) σ₁) σ
  | .assign2 t u e, Q, σ => evalW T ct e (fun v σ₁ => assignW T ct t v (fun σ₂ => assignW T ct u v (fun σ₃ => Q .next σ₃) σ₂) σ₁) σ
  | .augSub o i op e, Q, σ => evalW T ct o (fun ov σ₁ => evalW T ct i (fun iv σ₂ => subW ov iv (fun old σ₃ => evalW T ct e (fun v σ₄ => binW op old v (fun n σ₅ => (∃ k, n = .int k) ∧ setItemW ov iv n (fun σ₆ => Q .next σ₆) σ₅) σ₄) σ₃) σ₂) σ₁) σ
  | .augAttr o m op e, Q, σ => evalW T ct o (fun ov σ₁ => getAttrW T ov m (fun old σ₃ => evalW T ct e (fun v σ₄ => binW op old v (fun n σ₅ => (∃ k, n = .int k) ∧ setAttrW T ov m n (fun σ₆ => Q .next σ₆) σ₅) σ₄) σ₃) σ₁) σ
  | .expr e, Q, σ => evalW T ct e (fun _ σ₁ => Q .next σ₁) σ
  | .ret e, Q, σ => evalW T ct e (fun v σ₁ => Q (.ret v) σ₁) σ
  | .ifS c a b, Q, σ => condW T ct c (fun t σ₁ => if t then execsW a Q σ₁ else execsW b Q σ₁) σ
  | .whileS c body els, Q, σ => ∃ I : Nat → AS → Prop, (∃ n, I n σ) ∧ ∀ n τ, I n τ → condW T ct c (fun b τ₁ =>
      if b then execsW body (fun f τ₂ => match f with | .next | .cont => ∃ k, k < n ∧ I k τ₂ | .brk => Q .next τ₂ | .ret v => Q (.ret v) τ₂ | .exc => False) τ₁
      else execsW els (fun f τ₂ => match f with | .exc => False | f => Q f τ₂) τ₁) τ
  | .forS t it body, Q, σ => evalW T ct it (fun src σ₁ => iterW src (fun chk items => forLoopW chk (fun v K τ => bindT t v (fun τ₁ => execsW body K τ₁) τ) items Q σ₁) σ₁) σ
  | .brk, Q, σ => Q .brk σ
  | .cont, Q, σ => Q .cont σ
  | .pass, Q, σ => Q .next σ
  | .tryNext x its d st, Q, σ => tryNextW x its d st Q σ
  | .tryCall o m h, Q, σ => evalW T ct o (fun ov σ₁ => calleeW T ov m (fun f => f [] (fun _ τ => Q .next τ) (fun τ => execsW h (fun f τ₂ => match f with | .exc => False | f => Q f τ₂) τ) σ₁) ct σ₁) σ
  | .raiseC a, Q, σ => evalW T ct a (fun _ σ₁ => Q .exc σ₁) σ
  | .never, _, _ => False
def execsW : List MS → FK → AS → Prop
  | [], Q, σ => Q .next σ
  | s :: r, Q, σ => execW s (fun f σ₁ => match f with | .next => execsW r Q σ₁ | f => Q f σ₁) σ
end
end sem

def bindArgsA (fn : Fn) (args : List AV) : Option (List (String × AV)) :=
  if decide (1000000 ≤ args.length) || (fn.vararg.isNone && decide (fn.params.length < args.length)) || (!fn.dflt.isEmpty && args.length != 1) then none
  else match (fn.params.drop args.length).mapM (fun p => (fn.dflt.lookup p).map fun v => (p, v)) with
    | none => none
    | some ds => some (fn.params.zip args ++ ds ++ (match fn.vararg with | some x => [(x, .tup (args.drop fn.params.length))] | none => []))

def callW (T : Tb) : Nat → CT
  | 0, _, _, _, _, _ => False
  | d + 1, f, args, Q, X, σ => ∃ fn bs, T.fn f = some fn ∧ bindArgsA fn args = some bs ∧
      execsW T (callW T d) fn.body (fun fl τ => match fl with | .next => Q .none ⟨σ.loc, τ.heap⟩ | .ret v => Q v ⟨σ.loc, τ.heap⟩ | .exc => X ⟨σ.loc, τ.heap⟩ | _ => False) ⟨fun x => bs.lookup x, σ.heap⟩
end Mine

end

section
open PySem PySem.W PyProof.Rows PySem.Calls
set_option Elab.async false
set_option backward.match.sparseCases false
set_option maxRecDepth 100000
namespace Mine

structure CxOk (C : Cx) : Prop where
  nolimit : C.s₁.heap.NoLimit
  seer : C.s₁.heap.NoSeer
  tree : C.prog.given.tree = none
  sys : C.s₁.heap.get? sysModules ≠ none

structure OkA (d : Nat) (A : Around) : Prop where
  handled : A.handled = none
  depth : A.depth + 10 * d < 800
  units : A.units + 100 * d < 9000
  frames : ∃ env l, A.frames = some (env :: l) ∧ env.scope.isGenerator = false ∧ env.scope.isCoroutine = false ∧ env.builtins = builtinsNs ∧ env.globals = mainGlobals

/-- what a value's end is to say -/
def PV (C : Cx) (sc : Sc) (Pr : Prt) (env : Env) (h : Heap) (Q : VK) : Value → Shared → Prop :=
  fun v s' => ∃ av σ', VR s'.heap av v ∧ RS C sc Pr env σ' s' ∧ Imm h s'.heap ∧ Q av σ'
def PB (C : Cx) (sc : Sc) (Pr : Prt) (env : Env) (h : Heap) (Q : Bool → AS → Prop) : Bool → Shared → Prop :=
  fun b s' => ∃ σ', RS C sc Pr env σ' s' ∧ Imm h s'.heap ∧ Q b σ'
def PU (C : Cx) (sc : Sc) (Pr : Prt) (env : Env) (h : Heap) (Q : AS → Prop) : Unit → Shared → Prop :=
  fun _ s' => ∃ σ', RS C sc Pr env σ' s' ∧ Imm h s'.heap ∧ Q σ'

/-- what a value looks like -/
def VRi (h : Heap) (a : AV) (v : Value) : Prop := match a with
  | .none => v = .none
  | .bool b => v = .bool b
  | .int i => ∃ t, v = .int i t
  | .ref a => v = .ref a
  | .val w => v = w
  | .tup l => ∃ a vs, v = .ref a ∧ IsTp h a vs ∧ VRs h l vs
  | .range lo hi => ∃ a t u w, v = .ref a ∧ IsRange h a lo hi 1 t u w
  | .vals d => ∃ a, v = .ref a ∧ h.IsValuesView a d
theorem VR.inv {h : Heap} {a : AV} {v : Value} (x : VR h a v) : VRi h a v := by
  cases x with
  | none => exact rfl
  | bool => exact rfl
  | int i t => exact ⟨t, rfl⟩
  | ref => exact rfl
  | val => exact rfl
  | tup a b => exact ⟨_, _, rfl, a, b⟩
  | range a => exact ⟨_, _, _, _, rfl, a⟩
  | vals a => exact ⟨_, rfl, a⟩
theorem VR.val_inv {h : Heap} {w v : Value} (x : VR h (.val w) v) : v = w := x.inv
theorem VR.ref_inv {h : Heap} {a : Addr} {v : Value} (x : VR h (.ref a) v) : v = .ref a := x.inv
theorem VR.int_inv {h : Heap} {a : Int} {v : Value} (x : VR h (.int a) v) : ∃ t, v = .int a t := x.inv
theorem VR.bool_inv {h : Heap} {a : Bool} {v : Value} (x : VR h (.bool a) v) : v = .bool a := x.inv
theorem VR.none_inv {h : Heap} {v : Value} (x : VR h .none v) : v = .none := x.inv
theorem VR.tup_inv {h : Heap} {l : List AV} {v : Value} (x : VR h (.tup l) v) : ∃ a vs, v = .ref a ∧ IsTp h a vs ∧ VRs h l vs := x.inv
def VRsi (h : Heap) (l : List AV) (vs : List Value) : Prop := match l with
  | [] => vs = []
  | x :: l => ∃ v ws, vs = v :: ws ∧ VR h x v ∧ VRs h l ws
theorem VRs.inv {h : Heap} {l : List AV} {vs : List Value} (x : VRs h l vs) : VRsi h l vs := by
  cases x with
  | nil => exact rfl
  | cons a b => exact ⟨_, _, rfl, a, b⟩
theorem VRs.cons_inv {h : Heap} {x : AV} {l : List AV} {vs : List Value} (a : VRs h (x :: l) vs) : ∃ v ws, vs = v :: ws ∧ VR h x v ∧ VRs h l ws := a.inv
theorem VRs.nil_inv {h : Heap} {vs : List Value} (a : VRs h [] vs) : vs = [] := a.inv
theorem VRs.one_inv {h : Heap} {x : AV} {vs : List Value} (a : VRs h [x] vs) : ∃ v, vs = [v] ∧ VR h x v := by
  obtain ⟨v, ws, rfl, b, c⟩ := a.cons_inv
  exact ⟨v, by rw [c.nil_inv], b⟩
theorem VRs.two_inv {h : Heap} {x y : AV} {vs : List Value} (a : VRs h [x, y] vs) : ∃ v w, vs = [v, w] ∧ VR h x v ∧ VR h y w := by
  obtain ⟨v, ws, rfl, b, c⟩ := a.cons_inv
  obtain ⟨w, rfl, d⟩ := c.one_inv
  exact ⟨v, w, rfl, b, d⟩
theorem intsW_inv {a b : AV} {K : Int → Int → Prop} (h : intsW a b K) : ∃ x y, a = .int x ∧ b = .int y ∧ K x y := by
  cases a <;> first | exact h.elim | (cases b <;> first | exact h.elim | exact ⟨_, _, rfl, rfl, h⟩)
theorem intsR_inv {a b : AV} {K : Int → Int → Prop} {L : Addr → AV → Prop} (h : intsR a b K L) : (∃ x y, a = .int x ∧ b = .int y ∧ K x y) ∨ ∃ c, a = .ref c ∧ L c b := by
  cases a <;> first | exact .inl (intsW_inv h) | exact .inr ⟨_, rfl, h⟩
theorem ints_at {h : Heap} {a b : AV} {va vb : Value} (ha : VR h a va) (hb : VR h b vb) {K : Int → Int → Prop} (w : intsW a b K) : ∃ x y t u, va = .int x t ∧ vb = .int y u ∧ K x y := by
  obtain ⟨x, y, rfl, rfl, k⟩ := intsW_inv w
  obtain ⟨t, rfl⟩ := ha.int_inv
  obtain ⟨u, rfl⟩ := hb.int_inv
  exact ⟨x, y, t, u, rfl, rfl, k⟩
theorem intsR_at {h : Heap} {a b : AV} {va vb : Value} (ha : VR h a va) (hb : VR h b vb) {K : Int → Int → Prop} {L : Addr → AV → Prop} (w : intsR a b K L) : (∃ x y t u, va = .int x t ∧ vb = .int y u ∧ K x y) ∨ ∃ c, va = .ref c ∧ L c b := by
  rcases intsR_inv w with ⟨x, y, rfl, rfl, k⟩ | ⟨c, rfl, k⟩
  · obtain ⟨t, rfl⟩ := ha.int_inv
    obtain ⟨u, rfl⟩ := hb.int_inv
    exact .inl ⟨x, y, t, u, rfl, rfl, k⟩
  · exact .inr ⟨c, ha.ref_inv, k⟩
theorem refW_inv {b : AV} {K : Addr → Prop} (h : refW b K) : ∃ c, b = .ref c ∧ K c := by
  cases b <;> first | exact h.elim | exact ⟨_, rfl, h⟩
section
variable {C : Cx} {sc : Sc} {Pr : Prt} {env : Env} {σ : AS} {s : Shared} {A : Around} {E : Value → Shared → Prop} {Q : VK} {d : Nat}

/-- a value that is reckoned: nothing but the marks of values is turned -/
theorem PV.pure (R : RS C sc Pr env σ s) {v : Value} {av : AV} (t : Tok) (hv : VR s.heap av v) (h : Q av σ) : PV C sc Pr env s.heap Q v { s with toks := t } :=
  ⟨av, σ, hv, R.toks t, .refl _, h⟩
theorem PV.pure' (R : RS C sc Pr env σ s) {v : Value} {av : AV} (hv : VR s.heap av v) (h : Q av σ) : PV C sc Pr env s.heap Q v s :=
  ⟨av, σ, hv, R, .refl _, h⟩
/-- a new object -/
theorem PV.push (R : RS C sc Pr env σ s) {ob : Obj} {o : AO} {t : Tok} (ho : OR C (s.heap.push ob) ob o) (hf : ob.isFreed = false) (h : ∀ a, σ.heap a = none → Q (.ref a) (σ.ins a o)) (hs : ∀ c d l, o = .slots c d l → σ.heap d = some .sdict := by nofun) :
    PV C sc Pr env s.heap Q (.ref s.heap.objs.size) { s with heap := s.heap.push ob, toks := t } :=
  ⟨.ref _, _, .ref _, R.push ho hf hs, push_imm _, h _ R.fresh⟩

theorem RS.list (R : RS C sc Pr env σ s) {a : Addr} {l : List AV} (h : σ.heap a = some (.list l)) : ∃ vs n, s.heap.get? a = some { cls := .type "list", data := .seq vs n } ∧ VRs s.heap l vs.toList := by
  obtain ⟨ob, e, vs, n, rfl, r⟩ := R.trk _ _ h
  exact ⟨vs, n, e, r⟩
theorem VRs.length {h : Heap} {l : List AV} : ∀ {vs : List Value}, VRs h l vs → vs.length = l.length := by
  induction l with
  | nil => exact fun x => by rw [x.nil_inv]; rfl
  | cons a l ih =>
    intro vs x
    obtain ⟨v, ws, rfl, _, y⟩ := x.cons_inv
    exact congrArg Nat.succ (ih y)
theorem VRs.append {h : Heap} {l l' : List AV} {vs vs' : List Value} (x : VRs h l vs) (y : VRs h l' vs') : VRs h (l ++ l') (vs ++ vs') := by
  induction l generalizing vs with
  | nil => rw [x.nil_inv]; exact y
  | cons a l ih =>
    obtain ⟨v, ws, rfl, b, z⟩ := x.cons_inv
    exact .cons b (ih z)
theorem VRs.get {h : Heap} {l : List AV} {x : AV} {vs : List Value} {k : Nat} (y : VRs h l vs) (e : l[k]? = some x) : ∃ v, vs[k]? = some v ∧ VR h x v := by
  induction l generalizing vs k with
  | nil => exact nomatch e
  | cons a l ih =>
    obtain ⟨v, ws, rfl, b, z⟩ := y.cons_inv
    cases k with
    | zero => cases e; exact ⟨_, rfl, b⟩
    | succ k => exact ih (vs := ws) (k := k) z e
theorem VRs.ints {h : Heap} {ns : List Int} : ∀ {vs : List Value}, VRs h (ns.map .int) vs → IntsAre vs ns := by
  induction ns with
  | nil => exact fun x => x.nil_inv ▸ .nil
  | cons n ns ih =>
    intro vs x
    obtain ⟨v, ws, rfl, a, b⟩ := x.cons_inv
    obtain ⟨t, rfl⟩ := a.int_inv
    exact .cons _ _ (ih b)
theorem VRs.of_ints {h : Heap} {ns : List Int} {vs : List Value} (x : IntsAre vs ns) : VRs h (ns.map .int) vs := by
  induction x with
  | nil => exact .nil
  | cons k t _ ih => exact .cons (.int _ _) ih

theorem pylong (K : CxOk C) (R : RS C sc Pr env σ s) (OA : OkA d A) : PylongRoom (model C.prog C.w) A s := by
  obtain ⟨e', l, h1, h2, h3, h4, h5⟩ := OA.frames
  have hd := OA.depth
  exact PylongRoom.of (K.nolimit.keeps R.keep) (by unfold Builtin.pylongFrames recursionLimit; omega) (SeerAt.of (K.seer.keeps R.keep) K.tree h1 h2 h3 h4 h5)

theorem RS.isList (R : RS C sc Pr env σ s) {a : Addr} {l : List AV} (h : σ.heap a = some (.list l)) : ∃ vs : List Value, s.heap.IsList a vs.toArray ∧ VRs s.heap l vs := by
  obtain ⟨vs, n, e, r⟩ := R.list h
  exact ⟨vs.toList, ⟨_, e, rfl, n, by simp⟩, r⟩

theorem bits64 {a : Int} (h : a.natAbs < 2 ^ 30) : Builtin.Int.intBits a ≤ 64 := intBits_le_64 (by omega) (by omega)

theorem concat_sound (R : RS C sc Pr env σ s) {l : Addr} {b : AV} {vb : Value} (hb : VR s.heap b vb) (h : refW b fun b => ∃ x x', σ.heap l = some (.list x) ∧ σ.heap b = some (.list x') ∧ x.length < 1000000 ∧ x'.length < 1000000 ∧ ∀ c, σ.heap c = none → Q (.ref c) (σ.ins c (.list (x ++ x')))) :
    wpAny (model C.prog C.w) A (binaryOp .Add (.ref l) vb) (PV C sc Pr env s.heap Q) E s := by
  obtain ⟨l', rfl, h⟩ := refW_inv h
  obtain rfl := hb.ref_inv
  obtain ⟨x, y, e1, e2, h1, h2, h⟩ := h
  obtain ⟨vs, n, hl, hv⟩ := R.list e1
  obtain ⟨us, k, hl2, hu⟩ := R.list e2
  have l1 : vs.size = x.length := by rw [← hv.length]; simp
  have l2 : us.size = y.length := by rw [← hu.length]; simp
  refine concat_meets ⟨_, hl, rfl⟩ ⟨_, hl2, rfl⟩ noFill_list_add seq_list_add PySem.F.slot_list_add PySem.F.entry_list_add (PySem.F.args_list_add_2 _ _) (list_addW _ _ vs us n k none none #[] #[] (by unfold sizeLine; omega)) ⟨hl, hl2, ?_⟩
  refine PV.push (o := .list (x ++ y)) R ⟨_, _, rfl, ?_⟩ rfl h
  have := (hv.append hu).mono (push_imm (h := s.heap) { cls := .type "list", data := .seq (vs ++ us) })
  simpa using this
theorem bin_sound (K : CxOk C) (OA : OkA d A) (R : RS C sc Pr env σ s) {op : Operator} {a b : AV} {va vb : Value} (ha : VR s.heap a va) (hb : VR s.heap b vb) (h : binW op a b Q σ) :
    wpAny (model C.prog C.w) A (binaryOp op va vb) (PV C sc Pr env s.heap Q) E s := by
  cases op with
  | Add =>
    delta binW at h; dsimp only at h
    rcases intsR_at ha hb h with ⟨x, y, t, u, rfl, rfl, h⟩ | ⟨c, rfl, h⟩
    · exact add_int (PV.pure R _ (.int _ _) h)
    · exact concat_sound R hb h
  | Mult => obtain ⟨x, y, t, u, rfl, rfl, h⟩ := ints_at ha hb (show intsW a b _ from h); exact PyProof.Rows.mul_int (PV.pure R _ (.int _ _) h.2.2) (IntMulOk.of_left (bits64 h.1))
  | Sub => obtain ⟨x, y, t, u, rfl, rfl, h⟩ := ints_at ha hb (show intsW a b _ from h); exact sub_int' (PV.pure R _ (.int _ _) h)
  | FloorDiv => obtain ⟨x, y, t, u, rfl, rfl, h⟩ := ints_at ha hb (show intsW a b _ from h); exact floordiv_int h.1 (PV.pure R _ (.int _ _) h.2) (.inr (pylong K R OA))
  | Mod => obtain ⟨x, y, t, u, rfl, rfl, h⟩ := ints_at ha hb (show intsW a b _ from h); exact mod_int' h.1 (PV.pure R _ (.int _ _) h.2)
  | Pow => obtain ⟨x, y, t, u, rfl, rfl, h⟩ := ints_at ha hb (show intsW a b _ from h); exact pow_int_small h.1 h.2.1 h.2.2.1 (PV.pure R _ (.int _ _) h.2.2.2)
  | RShift => obtain ⟨x, y, t, u, rfl, rfl, h⟩ := ints_at ha hb (show intsW a b _ from h); exact rshift_int h.1 (PV.pure R _ (.int _ _) h.2)
  | BitAnd => obtain ⟨x, y, t, u, rfl, rfl, h⟩ := ints_at ha hb (show intsW a b _ from h); exact and_int (PV.pure R _ (.int _ _) h)
  | BitOr => obtain ⟨x, y, t, u, rfl, rfl, h⟩ := ints_at ha hb (show intsW a b _ from h); exact or_int (PV.pure R _ (.int _ _) h)
  | BitXor => obtain ⟨x, y, t, u, rfl, rfl, h⟩ := ints_at ha hb (show intsW a b _ from h); exact xor_int (PV.pure R _ (.int _ _) h)
  | _ => exact h.elim

theorem PB.pure {Q : Bool → AS → Prop} (R : RS C sc Pr env σ s) {b : Bool} (t : Tok) (h : Q b σ) : PB C sc Pr env s.heap Q b { s with toks := t } := ⟨σ, R.toks t, .refl _, h⟩
theorem PB.pure' {Q : Bool → AS → Prop} (R : RS C sc Pr env σ s) {b : Bool} (h : Q b σ) : PB C sc Pr env s.heap Q b s := ⟨σ, R, .refl _, h⟩

theorem any_beq {ns : List Int} {k : Int} : ns.any (· == k) = decide (k ∈ ns) := by
  rw [Bool.eq_iff_iff]; simp

theorem OV.isSome {h : Heap} {x : Option AV} {v : Option Value} (a : OV h x v) : x.isSome = v.isSome := by cases a <;> rfl
theorem RS.not_sys (R : RS C sc Pr env σ s) {a : Addr} {o : AO} (h : σ.heap a = some o) (hn : ¬ o.ro) (hb : C.s₁.heap.get? sysModules ≠ none) : (a == sysModules) = false := by
  rw [beq_eq_false_iff_ne]; rintro rfl
  exact hb ((R.disj _ _ h).resolve_right fun x => hn x.1).1

theorem KV.keys {h : Heap} {l : List (Int × AV)} {kvs : List (Int × Value)} (x : KV h l kvs) : kvs.map (·.1) = l.map (·.1) := by
  induction x with
  | nil => rfl
  | cons _ _ ih => simp [ih]
theorem KV.get {h : Heap} {l : List (Int × AV)} {kvs : List (Int × Value)} (x : KV h l kvs) (k : Int) : OV h (l.lookup k) (valueAt kvs k) := by
  induction x with
  | nil => exact .none
  | @cons j y v l vs a _ ih =>
    rw [List.lookup_cons]
    unfold valueAt at ih ⊢
    rw [List.find?_cons]
    by_cases q : k = j
    · subst q; simp; exact .some a
    · have q' : ¬ j = k := fun e => q e.symm
      have q2 : (k == j) = false := by simpa using q
      simp only [q2, q', decide_false]; exact ih
theorem RS.dict (R : RS C sc Pr env σ s) {a : Addr} {l : List (Int × AV)} {ep : Nat} (h : σ.heap a = some (.dict l ep)) :
    ∃ kvs, s.heap.DictAt (intKind C.prog C.w) a kvs ep ∧ KV s.heap l kvs := by
  obtain ⟨ob, e, x, es, kvs, h1, h2, h3, h4, h5⟩ := R.trk _ _ h
  exact ⟨kvs, ⟨ob, es, e, x, h1, h2, h3, h4⟩, h5⟩
theorem dictOf_of_at {h : Heap} {a : Addr} {kvs : List (Int × Value)} {ep : Nat} (x : h.DictAt (intKind C.prog C.w) a kvs ep) : h.DictOf (intKind C.prog C.w) a kvs :=
  let ⟨o, es, e, r, d, q⟩ := x; ⟨o, es, ep, e, r, d, q⟩
theorem isSome_lookup (l : List (Int × AV)) (k : Int) : (l.lookup k).isSome = decide (k ∈ l.map (·.1)) := by
  induction l with
  | nil => simp
  | cons p r ih =>
    rw [List.lookup_cons]
    by_cases q : k = p.1
    · simp [q]
    · have : (k == p.1) = false := by simpa using q
      simp only [this, ih]
      simp [q]
theorem RS.setOf (R : RS C sc Pr env σ s) {a : Addr} {l : List Int} (h : σ.heap a = some (.set l)) (hb : l.length < 4000) : s.heap.SetOf (intKind C.prog C.w) a (fun k => decide (k ∈ l)) l.length := by
  obtain ⟨ob, e, x⟩ := R.trk _ _ h
  exact x.setOf e (by unfold scanBound; omega)

theorem reads_pair {h : Heap} {p : Int × Int} {v : Value} (x : VR h (pairOf p) v) : ∃ as, Reads h v (PyData.tuple [.int p.1, .int p.2]) as := by
  cases x with
  | tup ht hs =>
  obtain ⟨o, ho, hc, n, hd⟩ := ht.tuple
  cases hs with
  | cons h1 hs =>
  cases h1 with
  | int _ t =>
  cases hs with
  | cons h2 hs =>
  cases h2 with
  | int _ u =>
  cases hs
  exact ⟨_, .tuple ho hc hd (ReadsAll.cons (Reads.int (h := h) p.1 t) (ReadsAll.cons (Reads.int (h := h) p.2 u) ReadsAll.nil))⟩
theorem reads_pairs {h : Heap} : ∀ {ps : List (Int × Int)} {vs : List Value}, VRs h (ps.map pairOf) vs → ∃ as, ReadsAll h vs (ps.map fun p => PyData.tuple [.int p.1, .int p.2]) as
  | [], _, .nil => ⟨[], .nil⟩
  | _ :: _, _, .cons a r => by
    obtain ⟨as, x⟩ := reads_pairs r
    obtain ⟨bs, y⟩ := reads_pair a
    exact ⟨_, .cons y x⟩
theorem canLay_pairs : ∀ ps : List (Int × Int), PyData.canLayAll0 (ps.map fun p => PyData.tuple [.int p.1, .int p.2]) = true
  | [] => by simp [PyData.canLayAll0]
  | p :: r => by simp [PyData.canLayAll0, PyData.canLay0, canLay_pairs r]
theorem eqv_pairs (i j : Int) : ∀ ps : List (Int × Int), (ps.map fun p => PyData.tuple [.int p.1, .int p.2]).any (fun y => PyData.eqv y (.tuple [.int i, .int j])) = decide ((i, j) ∈ ps)
  | [] => by simp
  | p :: r => by
    rw [List.map_cons, List.any_cons, eqv_pairs i j r]
    have : PyData.eqv (.tuple [.int p.1, .int p.2]) (.tuple [.int i, .int j]) = decide ((i, j) = p) := by
      obtain ⟨a, b⟩ := p
      simp [PyData.eqv, PyData.eqvAll]
      rw [Bool.eq_iff_iff]; simp; constructor
      · rintro ⟨rfl, rfl⟩; exact ⟨rfl, rfl⟩
      · rintro ⟨rfl, rfl⟩; exact ⟨rfl, rfl⟩
    rw [this]
    rw [Bool.eq_iff_iff]; simp

theorem pairW_inv {l : List AV} {K : Int → Int → Prop} (h : pairW l K) : ∃ i j, l = [.int i, .int j] ∧ K i j := by
  rcases l with _ | ⟨a, _ | ⟨b, _ | ⟨c, l⟩⟩⟩
  · exact h.elim
  · cases a <;> exact h.elim
  · cases a <;> first | exact h.elim | (cases b <;> first | exact h.elim | exact ⟨_, _, rfl, h⟩)
  · cases a <;> first | exact h.elim | (cases b <;> exact h.elim)
theorem neg_in {neg r : Bool} {P : Bool → Prop} (h : P (neg != r)) : (neg = false ∧ P r) ∨ (neg = true ∧ P (!r)) := by
  cases neg
  · exact .inl ⟨rfl, by simpa using h⟩
  · exact .inr ⟨rfl, by simpa using h⟩
/-- the ends of both tests -/
def InR (C : Cx) (A : Around) (neg : Bool) (va vb : Value) (E : Value → Shared → Prop) (s : Shared) (P : Bool → Prop) : Prop :=
  wpAny (model C.prog C.w) A (compareOp (if neg then .NotIn else .In) va vb) (fun v s' => ∃ c t, v = .bool c ∧ s' = { s with toks := t } ∧ P c) E s
theorem in_pairs_sound (neg : Bool) (OA : OkA d A) (R : RS C sc Pr env σ s) {i j : Int} {c : Addr} {va : Value} (ha : VR s.heap (.tup [.int i, .int j]) va) {ps : List (Int × Int)} (e : σ.heap c = some (.list (ps.map pairOf))) {P : Bool → Prop} (h : P (neg != decide ((i, j) ∈ ps))) : InR C A neg va (.ref c) E s P := by
  have hu := OA.units
  obtain ⟨vs, hl, hv⟩ := R.isList e
  obtain ⟨as, rd⟩ := reads_pairs hv
  obtain ⟨bs, rx⟩ := reads_pair (p := (i, j)) ha
  obtain ⟨o', ho', hc', n', hd'⟩ := hl
  rw [← eqv_pairs] at h
  simp only at rx
  have hdep : min (PyData.depthAll (ps.map fun p => PyData.tuple [.int p.1, .int p.2])) (PyData.depth (.tuple [.int i, .int j])) ≤ 10 := by
    refine Nat.le_trans (Nat.min_le_right _ _) ?_
    simp [PyData.depth, PyData.depthAll]
  have hc : A.units + min (PyData.depthAll (ps.map fun p => PyData.tuple [.int p.1, .int p.2])) (PyData.depth (.tuple [.int i, .int j])) + 6 ≤ cLine := by unfold cLine; clear h rx rd ho' hc' hd'; omega
  rcases neg_in (P := P) h with ⟨rfl, w⟩ | ⟨rfl, w⟩
  · exact SeqAt.in_list_reads (.list ho' hc' hd' (by simpa using rd)) rx (canLay_pairs ps) (by simp [PyData.canLay0, PyData.canLayAll0]) (by clear w h rx rd ho' hc' hd'; unfold cLine at *; omega) ⟨_, _, rfl, rfl, w⟩
  · exact SeqAt.notIn_list_reads (.list ho' hc' hd' (by simpa using rd)) rx (canLay_pairs ps) (by simp [PyData.canLay0, PyData.canLayAll0]) (by clear w h rx rd ho' hc' hd'; unfold cLine at *; omega) ⟨_, _, rfl, rfl, w⟩
theorem in_list_sound (neg : Bool) (R : RS C sc Pr env σ s) {k : Int} {t : Tok} {c : Addr} {ns : List Int} (e : σ.heap c = some (.list (ns.map .int))) {P : Bool → Prop} (h : P (neg != decide (k ∈ ns))) : InR C A neg (.int k t) (.ref c) E s P := by
  obtain ⟨vs, hl, hv⟩ := R.isList e
  rw [← any_beq] at h
  rcases neg_in (P := P) h with ⟨rfl, w⟩ | ⟨rfl, w⟩
  · exact in_list_ints hl hv.ints ⟨_, _, rfl, rfl, w⟩
  · exact notin_list_ints hl hv.ints ⟨_, _, rfl, rfl, w⟩
theorem in_dict_sound (neg : Bool) (K : CxOk C) (R : RS C sc Pr env σ s) {k : Int} {t : Tok} {c : Addr} {l : List (Int × AV)} {ep : Nat} (e : σ.heap c = some (.dict l ep)) {P : Bool → Prop} (h : P (neg != decide (k ∈ l.map (·.1)))) : InR C A neg (.int k t) (.ref c) E s P := by
  obtain ⟨kvs, hd, hk⟩ := R.dict e
  rw [← isSome_lookup] at h
  have hv := hk.get k
  have q : (l.lookup k).isSome = (valueAt kvs k).isSome := hv.isSome
  rw [q] at h
  rcases neg_in (P := P) h with ⟨rfl, w⟩ | ⟨rfl, w⟩
  · exact wpAny_in_of (intKind_is _ _ _ _) (R.not_sys e (by nofun) K.sys) (dictOf_of_at hd).mapOf ⟨_, _, rfl, rfl, w⟩
  · exact wpAny_notIn_of (intKind_is _ _ _ _) (R.not_sys e (by nofun) K.sys) (dictOf_of_at hd).mapOf ⟨_, _, rfl, rfl, w⟩
theorem in_set_sound (neg : Bool) (R : RS C sc Pr env σ s) {k : Int} {t : Tok} {c : Addr} {l : List Int} (e : σ.heap c = some (.set l)) (hl : l.length < 4000) {P : Bool → Prop} (h : P (neg != decide (k ∈ l))) : InR C A neg (.int k t) (.ref c) E s P := by
  rcases neg_in (P := P) h with ⟨rfl, w⟩ | ⟨rfl, w⟩
  · exact wpAny_inSet_of (intKind_is _ _ _ _) rfl (R.setOf e hl) ⟨_, _, rfl, rfl, w⟩
  · exact wpAny_notInSet_of (intKind_is _ _ _ _) rfl (R.setOf e hl) ⟨_, _, rfl, rfl, w⟩
theorem in_sound (neg : Bool) (K : CxOk C) (OA : OkA d A) (R : RS C sc Pr env σ s) {a b : AV} {va vb : Value} (ha : VR s.heap a va) (hb : VR s.heap b vb) {P : Bool → Prop} (h : inW a b (fun r => P (neg != r)) σ) : InR C A neg va vb E s P := by
  cases a with
  | int k =>
    obtain ⟨c, rfl, w⟩ := refW_inv (show refW b _ from h)
    clear h
    obtain ⟨t, rfl⟩ := ha.int_inv
    obtain rfl := hb.ref_inv
    generalize e : σ.heap c = o at w
    cases o with
    | none => exact False.elim w
    | some o =>
      cases o with
      | list l => obtain ⟨ns, rfl, _, w⟩ := w; exact in_list_sound neg R e w
      | dict l ep => exact in_dict_sound neg K R e w
      | set l => exact in_set_sound neg R e w.1 w.2
      | _ => exact False.elim w
  | tup l =>
    obtain ⟨i, j, rfl, w⟩ := pairW_inv (show pairW l _ from h)
    clear h
    obtain ⟨c, rfl, ps, e, _, w⟩ := refW_inv w
    obtain rfl := hb.ref_inv
    exact in_pairs_sound neg OA R ha e w
  | _ => exact False.elim h

/-- a list of ints, as data -/
theorem ints_data {h : Heap} {a : Addr} {vs : List Value} {ns : List Int} (hl : h.IsList a vs.toArray) (hi : IntsAre vs ns) : Reads h (.ref a) (.list (ns.map .int)) [a] := by
  obtain ⟨o, ho, hc, n, hd⟩ := hl
  refine .list ho hc hd ?_
  rw [List.toList_toArray]
  clear hd
  induction hi with
  | nil => exact .nil
  | cons k t _ ih => exact .cons (.int k t) ih
theorem ints_shaped (ns : List Int) : PySem.SeqAt.shaped (.list (ns.map .int)) = true := by
  have h₁ : PyData.canLayAll0 (ns.map .int) = true ∧ PyData.depthAll (ns.map .int) ≤ 1 := by
    induction ns with
    | nil => exact ⟨by simp [PyData.canLayAll0], by simp [PyData.depthAll]⟩
    | cons n ns ih => exact ⟨by simp [PyData.canLayAll0, PyData.canLay0, ih.1], by simp only [List.map_cons, PyData.depthAll, PyData.depth]; have := ih.2; omega⟩
  unfold PySem.SeqAt.shaped
  rw [Bool.and_eq_true, decide_eq_true_iff]
  exact ⟨by simp only [PyData.canLay0]; exact h₁.1, by simp only [PyData.depth]; have := h₁.2; omega⟩
theorem ints_same (ns ms : List Int) : PySem.SeqAt.noMixAll (ns.map .int) (ms.map .int) = true ∧ PySem.Spec.sameAll (ns.map .int) (ms.map .int) = decide (ns = ms) := by
  induction ns generalizing ms with
  | nil => cases ms <;> exact ⟨by simp [PySem.SeqAt.noMixAll], by simp [PySem.Spec.sameAll]⟩
  | cons n ns ih =>
    cases ms with
    | nil => exact ⟨by simp [PySem.SeqAt.noMixAll], by simp [PySem.Spec.sameAll]⟩
    | cons m ms =>
      obtain ⟨a, b⟩ := ih ms
      refine ⟨by simp [PySem.SeqAt.noMixAll, PySem.SeqAt.noMix, a], ?_⟩
      simp only [List.map_cons, PySem.Spec.sameAll, PySem.Spec.same, b]
      by_cases h : n = m <;> simp [h]

theorem eq_sound (OA : OkA d A) (R : RS C sc Pr env σ s) {a b : AV} {va vb : Value} (ha : VR s.heap a va) (hb : VR s.heap b vb) {P : Bool → Prop} (h : eqW a b P σ) :
    wpAny (model C.prog C.w) A (compareOp .Eq va vb) (fun v s' => ∃ c t, v = .bool c ∧ s' = { s with toks := t } ∧ P c) E s := by
  have hu := OA.units
  rcases intsR_at ha hb (show intsR a b _ _ from h) with ⟨x, y, t, u, rfl, rfl, h⟩ | ⟨c, rfl, h⟩
  · exact eq_int ⟨_, _, rfl, rfl, h⟩
  · obtain ⟨c', rfl, ns, ms, ⟨e1, l1⟩, ⟨e2, l2⟩, h⟩ := refW_inv h
    obtain rfl := hb.ref_inv
    obtain ⟨vs, hl, hv⟩ := R.isList e1
    obtain ⟨us, hl2, hv2⟩ := R.isList e2
    exact eq_dataH_same (ints_data hl hv.ints) (ints_data hl2 hv2.ints) (ints_shaped ns) (ints_shaped ms) (by unfold cLine; clear l1 l2; omega) (by simp only [PySem.SeqAt.noMix]; exact (ints_same ns ms).1) (by simp only [PySem.Spec.same]; rw [(ints_same ns ms).2]; exact ⟨_, _, rfl, rfl, h⟩)
theorem ne_sound (OA : OkA d A) (R : RS C sc Pr env σ s) {a b : AV} {va vb : Value} (ha : VR s.heap a va) (hb : VR s.heap b vb) {P : Bool → Prop} (h : eqW a b (fun r => P (!r)) σ) :
    wpAny (model C.prog C.w) A (compareOp .NotEq va vb) (fun v s' => ∃ c t, v = .bool c ∧ s' = { s with toks := t } ∧ P c) E s := by
  have hu := OA.units
  rcases intsR_at ha hb (show intsR a b _ _ from h) with ⟨x, y, t, u, rfl, rfl, h⟩ | ⟨c, rfl, h⟩
  · exact ne_int ⟨_, _, rfl, rfl, h⟩
  · obtain ⟨c', rfl, ns, ms, ⟨e1, l1⟩, ⟨e2, l2⟩, h⟩ := refW_inv h
    obtain rfl := hb.ref_inv
    obtain ⟨vs, hl, hv⟩ := R.isList e1
    obtain ⟨us, hl2, hv2⟩ := R.isList e2
    exact ne_dataH_same (ints_data hl hv.ints) (ints_data hl2 hv2.ints) (ints_shaped ns) (ints_shaped ms) (by unfold cLine; clear l1 l2; omega) (by simp only [PySem.SeqAt.noMix]; exact (ints_same ns ms).1) (by simp only [PySem.Spec.same]; rw [(ints_same ns ms).2]; exact ⟨_, _, rfl, rfl, h⟩)
theorem eqb_sound (OA : OkA d A) (R : RS C sc Pr env σ s) {a b : AV} {va vb : Value} (ha : VR s.heap a va) (hb : VR s.heap b vb) {P : Bool → Prop} (h : eqbW a b P σ) :
    wpAny (model C.prog C.w) A (compareOp .Eq va vb) (fun v s' => ∃ c t, v = .bool c ∧ s' = { s with toks := t } ∧ P c) E s := by
  cases a with
  | bool x =>
    obtain ⟨y, rfl, h⟩ : ∃ y, b = .bool y ∧ P (x == y) := by cases b <;> first | exact h.elim | exact ⟨_, rfl, h⟩
    obtain rfl := ha.bool_inv
    obtain rfl := hb.bool_inv
    exact eq_bool ⟨_, _, rfl, rfl, h⟩
  | _ => exact eq_sound OA R ha hb h
/-- two values: the same, or not -/
def IsR (va vb : Value) (P : Bool → Prop) : Prop := (va = .none ∧ vb = .none ∧ P true) ∨ (∃ a, va = .ref a ∧ vb = .none ∧ P false) ∨ (∃ a, va = .ref a ∧ vb = .ref a ∧ P true) ∨ ∃ m n, va = .type m ∧ vb = .type n ∧ P (decide (m = n))
theorem is_at {h : Heap} {a b : AV} {va vb : Value} (ha : VR h a va) (hb : VR h b vb) {P : Bool → Prop} (w : isW a b P) : IsR va vb P := by
  cases a with
  | none => cases b <;> first | exact w.elim | exact .inl ⟨ha.none_inv, hb.none_inv, w⟩
  | ref a => cases b <;> first | exact w.elim | exact .inr (.inl ⟨a, ha.ref_inv, hb.none_inv, w⟩) | exact .inr (.inr (.inl ⟨a, ha.ref_inv, w.1 ▸ hb.ref_inv, w.2⟩))
  | val u =>
    obtain ⟨m, n, rfl, rfl, w⟩ : ∃ m n, u = .type m ∧ b = .val (.type n) ∧ P (decide (m = n)) := by
      cases u <;> first | exact w.elim | (cases b with | val v => (cases v <;> first | exact w.elim | exact ⟨_, _, rfl, rfl, w⟩) | _ => exact w.elim)
    exact .inr (.inr (.inr ⟨m, n, ha.val_inv, hb.val_inv, w⟩))
  | _ => exact w.elim
theorem is_sound {h : Heap} {a b : AV} {va vb : Value} (ha : VR h a va) (hb : VR h b vb) {P : Bool → Prop} (w : isW a b P) :
    wpAny (model C.prog C.w) A (compareOp .Is va vb) (fun v s' => ∃ c t, v = .bool c ∧ s' = { s with toks := t } ∧ P c) E s := by
  rcases is_at ha hb w with ⟨rfl, rfl, h⟩ | ⟨a, rfl, rfl, h⟩ | ⟨a, rfl, rfl, h⟩ | ⟨m, n, rfl, rfl, h⟩
  · exact wpAny_is_self rfl ⟨_, _, rfl, rfl, h⟩
  · exact wpAny_is_other rfl (by nofun) ⟨_, _, rfl, rfl, h⟩
  · exact wpAny_is_ref_self ⟨_, _, rfl, rfl, h⟩
  · refine wpAny_is_plain rfl ⟨_, _, rfl, rfl, ?_⟩
    rw [show (Value.type m == Value.type n) = decide (m = n) by rw [Bool.eq_iff_iff]; simp]; exact h
theorem isnot_sound {h : Heap} {a b : AV} {va vb : Value} (ha : VR h a va) (hb : VR h b vb) {P : Bool → Prop} (w : isW a b fun r => P (!r)) :
    wpAny (model C.prog C.w) A (compareOp .IsNot va vb) (fun v s' => ∃ c t, v = .bool c ∧ s' = { s with toks := t } ∧ P c) E s := by
  rcases is_at ha hb w with ⟨rfl, rfl, h⟩ | ⟨a, rfl, rfl, h⟩ | ⟨a, rfl, rfl, h⟩ | ⟨m, n, rfl, rfl, h⟩
  · exact wpAny_isNot_self rfl ⟨_, _, rfl, rfl, h⟩
  · exact wpAny_isNot_other rfl (by nofun) ⟨_, _, rfl, rfl, h⟩
  · exact wpAny_isNot_ref_self ⟨_, _, rfl, rfl, h⟩
  · refine wpAny_isNot_plain rfl ⟨_, _, rfl, rfl, ?_⟩
    rw [show (Value.type m == Value.type n) = decide (m = n) by rw [Bool.eq_iff_iff]; simp]; exact h
theorem cmp_sound (K : CxOk C) (OA : OkA d A) (R : RS C sc Pr env σ s) {op : CmpOp} {a b : AV} {va vb : Value} (ha : VR s.heap a va) (hb : VR s.heap b vb) {P : Bool → Prop} (h : cmpW op a b P σ) :
    wpAny (model C.prog C.w) A (compareOp op va vb) (fun v s' => ∃ c t, v = .bool c ∧ s' = { s with toks := t } ∧ P c) E s := by
  cases op with
  | Eq => exact eqb_sound OA R ha hb h
  | NotEq => exact ne_sound OA R ha hb h
  | Lt => obtain ⟨x, y, t, u, rfl, rfl, h⟩ := ints_at ha hb (show intsW a b _ from h); exact lt_int ⟨_, _, rfl, rfl, h⟩
  | Gt => obtain ⟨x, y, t, u, rfl, rfl, h⟩ := ints_at ha hb (show intsW a b _ from h); exact gt_int ⟨_, _, rfl, rfl, h⟩
  | GtE => obtain ⟨x, y, t, u, rfl, rfl, h⟩ := ints_at ha hb (show intsW a b _ from h); exact ge_int ⟨_, _, rfl, rfl, h⟩
  | Is => exact is_sound (A := A) (E := E) ha hb h
  | IsNot => exact isnot_sound (A := A) (E := E) ha hb h
  | In => exact in_sound false K OA R ha hb (by have h : inW a b P σ := h; simpa using h)
  | NotIn => exact in_sound true K OA R ha hb (by have h : inW a b (fun r => P (!r)) σ := h; simpa using h)
  | _ => exact h.elim

theorem truth_sound (K : CxOk C) (OA : OkA d A) (R : RS C sc Pr env σ s) {a : AV} {va : Value} (ha : VR s.heap a va) {P : Bool → Prop} (h : truthW a P σ) :
    wpAny (model C.prog C.w) A (truthy va) (fun c s' => ∃ t, s' = { s with toks := t } ∧ P c) E s := by
  cases a with
  | bool b => obtain rfl := ha.bool_inv; exact wpAny_truthy_bool ⟨_, rfl, h⟩
  | none => obtain rfl := ha.none_inv; exact truthy_none ⟨_, rfl, h⟩
  | int i => obtain ⟨t, rfl⟩ := ha.int_inv; exact truthy_int ⟨_, rfl, h⟩
  | ref a =>
    obtain rfl := ha.ref_inv
    obtain ⟨l, e, hl, h⟩ := h
    obtain ⟨vs, hl', hv⟩ := R.isList e
    have q := hv.length
    refine wpAny_truthy_list hl' (by rw [List.size_toArray]; clear hl' hv h; omega) ⟨_, rfl, ?_⟩
    have e' : vs.isEmpty = l.isEmpty := by
      cases l with
      | nil => rw [List.eq_nil_of_length_eq_zero q]; rfl
      | cons _ _ => cases vs with
        | nil => cases q
        | cons _ _ => rfl
    simp only [List.isEmpty_toArray, e']; exact h
  | _ => exact h.elim

end
end Mine

end

section
open PySem PySem.W PyProof.Rows PySem.Calls
set_option Elab.async false
set_option backward.match.sparseCases false
set_option maxRecDepth 100000
namespace Mine
section
variable {C : Cx} {sc : Sc} {Pr : Prt} {env : Env} {σ : AS} {s : Shared} {A : Around} {E : Value → Shared → Prop} {Q : VK} {d : Nat}

theorem RS.updList (R : RS C sc Pr env σ s) {a : Addr} {l l' : List AV} {vs : Array Value} {n : Nat} (e : σ.heap a = some (.list l)) (hl : IsL s.heap a vs n) (f : Array Value → Array Value) (hv : VRs s.heap l' (f vs).toList) (t : Tok) :
    RS C sc Pr env (σ.ins a (.list l')) { s with heap := s.heap.update a (Obj.mapSeq f), toks := t } ∧ Imm s.heap (s.heap.update a (Obj.mapSeq f)) := by
  have hi := R.put_imm (h' := s.heap.update a (Obj.mapSeq f)) (Heap.SameBut.update ..).extBut (.inl ⟨_, e, by nofun⟩)
  exact ⟨R.put (Heap.SameBut.update ..).extBut (IsL.update hl f) ⟨_, _, rfl, hv.mono hi⟩ (.inl ⟨_, e, by nofun⟩), hi⟩

theorem VRs.set {h : Heap} {x : AV} {v : Value} (a : VR h x v) {l : List AV} {vs : List Value} (k : Nat) (y : VRs h l vs) : VRs h (l.set k x) (vs.set k v) := by
  induction l generalizing vs k with
  | nil => rw [y.nil_inv]; exact .nil
  | cons b l ih =>
    obtain ⟨w, ws, rfl, b, z⟩ := y.cons_inv
    cases k with
    | zero => exact .cons a z
    | succ k => exact .cons b (ih k z)
theorem VRs.erase {h : Heap} {l : List AV} {vs : List Value} (k : Nat) (y : VRs h l vs) : VRs h (l.eraseIdx k) (vs.eraseIdx k) := by
  induction l generalizing vs k with
  | nil => rw [y.nil_inv]; exact .nil
  | cons b l ih =>
    obtain ⟨w, ws, rfl, b, z⟩ := y.cons_inv
    cases k with
    | zero => exact z
    | succ k => exact .cons b (ih k z)
theorem VRs.drop {h : Heap} {l : List AV} {vs : List Value} (k : Nat) (y : VRs h l vs) : VRs h (l.drop k) (vs.drop k) := by
  induction l generalizing vs k with
  | nil => rw [y.nil_inv, List.drop_nil, List.drop_nil]; exact .nil
  | cons b l ih =>
    cases k with
    | zero => exact y
    | succ k =>
      obtain ⟨w, ws, rfl, b, z⟩ := y.cons_inv
      exact ih k z
theorem VRs.take {h : Heap} {l : List AV} {vs : List Value} (k : Nat) (y : VRs h l vs) : VRs h (l.take k) (vs.take k) := by
  induction l generalizing vs k with
  | nil => rw [y.nil_inv, List.take_nil, List.take_nil]; exact .nil
  | cons b l ih =>
    cases k with
    | zero => exact .nil
    | succ k =>
      obtain ⟨w, ws, rfl, b, z⟩ := y.cons_inv
      exact .cons b (ih k z)

theorem sub_sound (R : RS C sc Pr env σ s) {a b : AV} {va vb : Value} (ha : VR s.heap a va) (hb : VR s.heap b vb) (h : subW a b Q σ) :
    wpAny (model C.prog C.w) A (getItem va vb) (PV C sc Pr env s.heap Q) E s := by
  cases a with
  | ref a =>
    cases b with
    | int k =>
      obtain rfl := ha.ref_inv
      obtain ⟨t, rfl⟩ := hb.int_inv
      delta subW at h; dsimp only at h
      generalize e : σ.heap a = ob at h
      rcases ob with _ | ob
      · exact False.elim h
      cases ob with
      | list l =>
        obtain ⟨hlen, v, hv, h⟩ := h
        obtain ⟨vs, hl, hs⟩ := R.isList e
        have q := hs.length
        rcases hv with ⟨h0, hv⟩ | ⟨h0, h1, hv⟩
        · obtain ⟨v', e1, e2⟩ := hs.get hv
          have hlt : k.toNat < l.length := (List.getElem?_eq_some_iff.mp hv).1
          exact wpAny_getItem_list hl h0 (by omega) (by simpa using e1) (PV.pure' R e2 h)
        · obtain ⟨v', e1, e2⟩ := hs.get hv
          exact wpAny_getItem_list_neg hl h0 (by simp; omega) (by omega) (by simpa [q] using e1) (PV.pure' R e2 h)
      | script ns =>
        obtain ⟨h0, n, hn, hl, h⟩ := h
        obtain ⟨ob, e1, hc, vs, m, hd, hi⟩ := R.trk _ _ e
        obtain ⟨t, ht⟩ := hi.get k.toNat n hn
        have hlt : k.toNat < ns.length := (List.getElem?_eq_some_iff.mp hn).1
        exact wpAny_getItem_list (items := vs) ⟨ob, e1, hc, m, hd⟩ h0 (by omega) (by simpa using ht) (PV.pure' R (.int _ _) h)
      | dict l ep =>
        obtain ⟨v, hv, h⟩ := h
        obtain ⟨kvs, hd, hk⟩ := R.dict e
        have hg := hk.get k
        rw [hv] at hg
        generalize hx : valueAt kvs k = x at hg
        cases hg with
        | some hg => exact wpAny_getItem_of (intKind_is _ _ _ _) (dictOf_of_at hd).mapOf hx (PV.pure R _ hg h)
      | _ => exact False.elim h
    | _ => exact False.elim h
  | _ => exact False.elim h

/-- the class that an item's holder has -/
theorem sub_type (R : RS C sc Pr env σ s) {a b : AV} {va : Value} (ha : VR s.heap a va) (h : subW a b Q σ) :
    ∃ T id, s.TypeIs va T ∧ typeLookup (.type T) "__getitem__" = pure (some (.builtin id)) := by
  cases a with
  | ref a =>
    cases b with
    | int k =>
      obtain rfl := ha.ref_inv
      delta subW at h; dsimp only at h
      generalize e : σ.heap a = ob at h
      rcases ob with _ | ob
      · exact False.elim h
      cases ob with
      | list l =>
        obtain ⟨vs, hl, _⟩ := R.isList e
        exact ⟨_, _, hl.typeIs, slot_list_getitem.lookup⟩
      | script ns =>
        obtain ⟨ob, e1, hc, _⟩ := R.trk _ _ e
        exact ⟨"list", _, ⟨ob, e1, hc⟩, slot_list_getitem.lookup⟩
      | dict l ep =>
        obtain ⟨kvs, hd, hk⟩ := R.dict e
        exact ⟨"dict", _, (dictOf_of_at hd).mapOf.typeIs, slot_dict_getitem.lookup⟩
      | _ => exact False.elim h
    | _ => exact False.elim h
  | _ => exact False.elim h

theorem KV.any {h : Heap} {l : List (Int × AV)} {kvs : List (Int × Value)} (x : KV h l kvs) (k : Int) : kvs.any (fun kv => kv.1 = k) = (l.lookup k).isSome := by
  rw [isSome_lookup, ← x.keys, Bool.eq_iff_iff]
  simp
theorem KV.mapv {h : Heap} {l : List (Int × AV)} {kvs : List (Int × Value)} (x : KV h l kvs) {k : Int} {v : AV} {v' : Value} (hv : VR h v v') :
    KV h (l.map (fun p => if p.1 = k then (p.1, v) else p)) (kvs.map (fun p => if p.1 = k then (p.1, v') else p)) := by
  induction x with
  | nil => exact .nil
  | @cons j y w l vs a r ih =>
    rw [List.map_cons, List.map_cons]
    by_cases q : j = k
    · simp only [q, if_true]; exact .cons hv ih
    · simp only [q, if_false]; exact .cons a ih
theorem KV.append {h : Heap} {l l' : List (Int × AV)} {kvs kvs' : List (Int × Value)} (x : KV h l kvs) (y : KV h l' kvs') : KV h (l ++ l') (kvs ++ kvs') := by
  induction x with
  | nil => exact y
  | cons a _ ih => exact .cons a ih
theorem stored_kv {h : Heap} {l : List (Int × AV)} {kvs : List (Int × Value)} (x : KV h l kvs) {k : Int} {v : AV} {v' : Value} (hv : VR h v v') :
    KV h (if (l.lookup k).isSome then l.map (fun p => if p.1 = k then (p.1, v) else p) else l ++ [(k, v)]) (stored kvs k v') := by
  unfold stored
  rw [x.any k]
  split
  · exact x.mapv hv
  · exact x.append (.cons hv .nil)

/-- an item of a list is set, the object known whole -/
theorem set_at {l : Addr} {items : Array Value} {n : Nat} {k : Int} {t : Tok} {v : Value} {Q : Unit → Shared → Prop} (ho : IsL s.heap l items n) (h0 : 0 ≤ k) (hj : k < items.size) (hs : items.size < 1000000)
    (hQ : Q () { s with heap := s.heap.update l (Obj.mapSeq (·.setIfInBounds k.toNat v)) }) : wpAny (model C.prog C.w) A (setItem (.ref l) (.int k t) v) Q E s := by
  have hT : s.TypeIs (.ref l) "list" := (IsL.isList ho).typeIs
  have hf : k < 2 ^ 63 := by omega
  unfold setItem
  try with_reducible refine wpAny_holding ?_
  try refine wpAny_bind (wpAny_pure ?_)
  refine wpAny_bind (wpAny_sequenceKey hT (by decide) ?_)
  refine wpAny_bind (wpAny_callSpecial?_slot (name := Str.ofString "__setitem__") hT slot_list_setitem ?_)
  refine wpAny_call_entry slot_list_setitem hT entry_list_setitem ?_ (args_list_setitem _ _ _)
  show wpAny _ _ (Builtin.List.listSubscript? (.int k t) >>= _) _ _ s
  refine wpAny_bind (wpAny_listSubscript_int (fitsIndex_of h0 hf) ?_)
  clear hf
  obtain ⟨j, rfl⟩ := Int.eq_ofNat_of_zero_le h0
  have hx : items[j]? = some items[j] := Array.getElem?_eq_getElem (by omega)
  show wpAny _ _ ((seqItemAt l j >>= fun r => pure (r.map (j, ·))) >>= _) _ _ s
  refine wpAny_bind (wpAny_bind (wpAny_seqItemAt ho rfl (wpAny_pure ?_)))
  rw [hx]
  show wpAny _ _ (setSeqItemAt l j v >>= _) _ _ _
  refine wpAny_bind (wpAny_setSeqItemAt ho rfl ?_)
  first
    | exact wpAny_pure ⟨.none, rfl, wpAny_pure hQ⟩
    | exact wpAny_bind (wpAny_pure (wpAny_pure ⟨.none, rfl, wpAny_pure hQ⟩))

theorem setItem_sound (R : RS C sc Pr env σ s) {a b v : AV} {va vb vv : Value} (ha : VR s.heap a va) (hb : VR s.heap b vb) (hv : VR s.heap v vv) {K : AS → Prop} (h : setItemW a b v K σ) :
    wpAny (model C.prog C.w) A (setItem va vb vv) (PU C sc Pr env s.heap K) E s := by
  cases a with
  | ref a =>
    cases b with
    | int k =>
      obtain rfl := ha.ref_inv
      obtain ⟨t, rfl⟩ := hb.int_inv
      delta setItemW at h; dsimp only at h
      generalize e : σ.heap a = ob at h
      rcases ob with _ | ob
      · exact False.elim h
      cases ob with
      | list l =>
        obtain ⟨h0, h1, h2, h⟩ := h
        obtain ⟨vs, n, hl, hs⟩ := R.list e
        have q : vs.size = l.length := by rw [← hs.length]; simp
        refine set_at (n := n) hl h0 (by omega) (by omega) ?_
        obtain ⟨r1, r2⟩ := R.updList (l' := l.set k.toNat v) e hl (·.setIfInBounds k.toNat vv) (by simpa using VRs.set hv k.toNat hs) s.toks
        exact ⟨_, r1, r2, h⟩
      | dict l ep =>
        obtain ⟨kvs, hd, hk⟩ := R.dict e
        have q : kvs.length = l.length := by have := congrArg List.length hk.keys; simpa using this
        refine wpAny_setItem_pairs (intKind_is _ _ _ _) (dictOf_of_at hd) (fun h' hd' hs' => ?_) (by unfold sizeLine; omega)
        have hi := R.put_imm hs'.extBut (.inl ⟨_, e, by nofun⟩)
        obtain ⟨o, es, ep', ho, hx, hdd, h2, h3, h4⟩ := hd'
        exact ⟨_, R.put (o := .dict _ ep') hs'.extBut ho ⟨hx, es, _, hdd, h2, h3, h4, (stored_kv hk hv).mono hi⟩ (.inl ⟨_, e, by nofun⟩), hi, h.2 _⟩
      | _ => exact False.elim h
    | _ => exact False.elim h
  | _ => exact False.elim h

end
end Mine

end

section
open PySem PySem.W PyProof.Rows PySem.Calls
set_option Elab.async false
set_option backward.match.sparseCases false
set_option maxRecDepth 100000
namespace Mine
section
variable {C : Cx} {sc : Sc} {Pr : Prt} {env : Env} {σ : AS} {s : Shared} {A : Around} {E : Value → Shared → Prop} {Q : VK} {d : Nat}

theorem PV.made (R : RS C sc Pr env σ s) {h' : Heap} {b : Addr} {ob : Obj} {o : AO} {t : Tok} (hk : ∀ c o, s.heap.get? c = some o → h'.get? c = some o) (hb : s.heap.get? b = none) (hg : h'.get? b = some ob) (ho : OR C h' ob o)
    (h : ∀ a, σ.heap a = none → Q (.ref a) (σ.ins a o)) (hs : ∀ c d l, o = .slots c d l → σ.heap d = some .sdict := by nofun) : PV C sc Pr env s.heap Q (.ref b) { s with heap := h', toks := t } := by
  refine ⟨.ref b, _, .ref b, R.put (fun c o' _ e => hk c o' e) hg ho (.inr hb) hs, .of_keeps hk, h b ?_⟩
  cases q : σ.heap b with
  | none => rfl
  | some o' => obtain ⟨ob', e, _⟩ := R.trk _ _ q; rw [hb] at e; cases e
theorem PV.kept (R : RS C sc Pr env σ s) {h' : Heap} {v : Value} {av : AV} {t : Tok} (hk : ∀ c o, s.heap.get? c = some o → h'.get? c = some o) (hv : VR h' av v) (h : Q av σ) :
    PV C sc Pr env s.heap Q v { s with heap := h', toks := t } := ⟨av, σ, hv, R.keeps hk, .of_keeps hk, h⟩
theorem get_size (h : Heap) : h.get? h.objs.size = none := by
  cases q : h.get? h.objs.size with
  | none => rfl
  | some o' => exact absurd (Heap.lt_size q) (Nat.lt_irrefl _)
theorem get_ge {h : Heap} {a : Addr} (x : h.objs.size ≤ a) : h.get? a = none := by
  cases q : h.get? a with
  | none => rfl
  | some o' => exact absurd (Heap.lt_size q) (Nat.not_lt.mpr x)

theorem sorted_seq {T : String} {it : Addr} {o : Obj} {items : Array Value} {n : Nat} {ns : List Int} {Q : Value → Shared → Prop} (hT : T = "list" ∨ T = "tuple")
    (ho : s.heap.get? it = some o) (hc : o.cls = .type T) (hd : o.data = .seq items n) (hI : IntsAre items.toList ns) (h64 : ns.length < 64)
    (h : ∀ (h' : Heap) (b : Addr) (out : Array Value) (e : Nat) (ms : List Int), (∀ c o, s.heap.get? c = some o → h'.get? c = some o) → s.heap.get? b = none → h'.get? b = some (seqObj "list" out e) →
      IntsAre out.toList ms → ms.Perm ns → ms.Pairwise (· ≤ ·) → Q (.ref b) { s with heap := h' }) :
    wpAny (model C.prog C.w) A (call (.builtin "sorted") [.ref it]) Q E s := by
  have hlen : items.toList.length = ns.length := hI.length
  have hsz : items.size = ns.length := by rw [← hlen]; simp
  refine Calls.call_function_entry kind_sorted plain_sorted entry_sorted (args_sorted1 _) ?_
  unfold Builtin.«sorted»
  refine wpAny_bind (m := checkCount "sorted" 1 1 _) (wpAny_pure ?_)
  refine wpAny_bind (wpAny_collect_seq it hT ho hc hd (fun h₁ hk => ?_) (by unfold sizeLine; omega))
  refine wpAny_bind (wpAny_newList ?_ (by simp; unfold sizeLine; omega))
  have hoL : (h₁.push (seqObj "list" items.toList.toArray 0)).get? h₁.objs.size = some (seqObj "list" items.toList.toArray 0) := Heap.get?_push_size _ rfl
  show wpAny _ _ _ _ _ { s with heap := h₁.push (seqObj "list" items.toList.toArray 0) }
  refine wpAny_bind (wpAny_holding (wpAny_call_entry slot_list_sort ⟨_, hoL, rfl⟩ entry_list_sort (list_sort_tree hoL hI (by omega) fun out ns' a1 a2 a3 => ⟨_, rfl, ?_⟩) (args_list_sort _)))
  obtain ⟨e, he⟩ := sortedHeap_at (out := out) hoL
  refine wpAny_pure ⟨_, rfl, h _ _ out e ns' (fun c o' hc' => ?_) ?_ he a1 a2 a3⟩
  · have hlt := Heap.lt_size (hk c o' hc')
    have := sortedHeap_old (h := h₁.push (seqObj "list" items.toList.toArray 0)) (vs := items.toList) (out := out) (Nat.ne_of_lt hlt) (by rw [Heap.size_push]; exact Nat.lt_succ_of_lt hlt)
    exact this.trans (Heap.get?_push_of_some _ (hk c o' hc'))
  · cases q : s.heap.get? h₁.objs.size with
    | none => rfl
    | some o' => exact absurd (Heap.lt_size (hk _ _ q)) (Nat.lt_irrefl _)

theorem it_entry : entryFor table "iter" = some Builtin.«iter» := entryFor_of_fast (by kernel_rfl)
theorem it_args (a : Value) : argsOk "iter" ⟨[a], []⟩ := by unfold argsOk; kernel_rfl
theorem call_iter_list {l : Addr} {items : Array Value} {Q : Value → Shared → Prop} (hl : s.heap.IsList l items)
    (h : Q (.ref s.heap.objs.size) { s with heap := s.heap.push { cls := .type "list_iterator", data := .fields #[.ref l, .int 0 0] } }) :
    wpAny (model C.prog C.w) A (call (.builtin "iter") [.ref l]) Q E s := by
  refine Calls.call_function_entry (by decide +kernel) (by decide +kernel) it_entry (it_args _) ?_
  unfold Builtin.«iter»
  refine wpAny_bind (m := someArgs "iter" 1 2 _) (wpAny_of_eq (a := [Value.ref l]) (by first | rfl | kernel_rfl!) ?_)
  show wpAny _ _ (pyIter (.ref l) >>= _) _ _ _
  refine wpAny_bind (wpAny_pyIter_list hl ?_)
  exact wpAny_pure ⟨_, rfl, h⟩

noncomputable def Prim.value : Prim → Value
  | .len => .builtin "len" | .range => .type "range" | .sum => .builtin "sum" | .min => .builtin "min" | .max => .builtin "max" | .sorted => .builtin "sorted"
  | .list => .type "list" | .tuple => .type "tuple" | .set => .type "set" | .iter => .builtin "iter" | .isinstance => .builtin "isinstance" | .type => .type "type"

theorem small_range {lo hi : Int} (h1 : lo.natAbs < 2 ^ 60) (h2 : hi.natAbs < 2 ^ 60) : Builtin.Range.small lo hi 1 = true ∧ Builtin.Range.rangeSize lo hi 1 = ((hi - lo).toNat : Nat) := by
  have e : Builtin.Range.rangeSize lo hi 1 = ((hi - lo).toNat : Nat) := by
    unfold Builtin.Range.rangeSize
    rw [if_pos (by omega)]
    split
    · rw [Int.ediv_one]; omega
    · omega
  refine ⟨?_, e⟩
  unfold Builtin.Range.small Builtin.Range.rangeFitsLong
  rw [e, if_pos (by omega)]
  simp only [Bool.and_eq_true, Bool.or_eq_true, decide_eq_true_eq, beq_iff_eq]
  have b : ∀ {x : Int}, x.natAbs < 2 ^ 60 → -2 ^ 63 ≤ x ∧ x < 2 ^ 63 := fun h => by omega
  refine ⟨⟨⟨⟨b h1, b h2⟩, by decide⟩, by omega⟩, .inr ?_⟩
  rw [Int.sub_self, Int.add_zero]; exact b h2

theorem itemsOf_ints {lo : Int} {n : Nat} {acc : Array Value} (x : ItemsOf (fun i v => ∃ t, v = .int (lo + i * 1) t) acc n) : IntsAre acc.toList ((List.range n).map fun k => lo + (k : Nat)) := by
  obtain ⟨hs, hx⟩ := x
  have key : ∀ (l : List Value) (m : Nat), (∀ (j : Nat) (v : Value), l[j]? = some v → ∃ t, v = Value.int (lo + ((m + j : Nat) : Int)) t) → IntsAre l ((List.range' m l.length).map fun k => lo + (k : Nat)) := by
    intro l
    induction l with
    | nil => intro m _; exact .nil
    | cons v r ih =>
      intro m h
      obtain ⟨t, rfl⟩ := h 0 v rfl
      rw [List.length_cons, List.range'_succ, List.map_cons]
      exact .cons _ _ (ih (m + 1) fun j v hv => by obtain ⟨t, e⟩ := h (j + 1) v (by simpa using hv); exact ⟨t, by rw [e]; congr 1; omega⟩)
  have := key acc.toList 0 fun j v hv => by
    obtain ⟨t, e⟩ := hx j v (by simpa using hv)
    exact ⟨t, by rw [e]; simp⟩
  rw [← List.range_eq_range'] at this
  simpa [hs] using this

theorem ref1_inv {as : List AV} {K : Addr → Prop} (h : ref1 as K) : ∃ a, as = [.ref a] ∧ K a := by
  rcases as with _ | ⟨a, _ | ⟨b, l⟩⟩
  · exact h.elim
  · cases a <;> first | exact h.elim | exact ⟨_, rfl, h⟩
  · cases a <;> exact h.elim
theorem int1_inv {as : List AV} {K : Int → Prop} (h : int1 as K) : ∃ a, as = [.int a] ∧ K a := by
  rcases as with _ | ⟨a, _ | ⟨b, l⟩⟩
  · exact h.elim
  · cases a <;> first | exact h.elim | exact ⟨_, rfl, h⟩
  · cases a <;> exact h.elim
theorem tupOr_inv {as : List AV} {L : List AV → Prop} {P : Prop} (h : tupOr as L P) : (∃ l, as = [.tup l] ∧ L l) ∨ P := by
  rcases as with _ | ⟨a, _ | ⟨b, l⟩⟩
  · exact .inr h
  · cases a <;> first | exact .inr h | exact .inl ⟨_, rfl, h⟩
  · cases a <;> exact .inr h
theorem int2Or_inv {as : List AV} {K : Int → Int → Prop} {P : Prop} (h : int2Or as K P) : (∃ a b, as = [.int a, .int b] ∧ K a b) ∨ P := by
  rcases as with _ | ⟨a, _ | ⟨b, _ | ⟨c, l⟩⟩⟩
  · exact .inr h
  · cases a <;> exact .inr h
  · cases a <;> first | exact .inr h | (cases b <;> first | exact .inr h | exact .inl ⟨_, _, rfl, h⟩)
  · cases a <;> first | exact .inr h | (cases b <;> exact .inr h)
section
variable {as : List AV} {vs : List Value} {h : Heap}
theorem ref1_at (ha : VRs h as vs) {K : Addr → Prop} (w : ref1 as K) : ∃ a, vs = [.ref a] ∧ K a := by
  obtain ⟨a, rfl, k⟩ := ref1_inv w
  obtain ⟨v, rfl, r⟩ := ha.one_inv
  exact ⟨a, by rw [r.ref_inv], k⟩
theorem int1_at (ha : VRs h as vs) {K : Int → Prop} (w : int1 as K) : ∃ a t, vs = [.int a t] ∧ K a := by
  obtain ⟨a, rfl, k⟩ := int1_inv w
  obtain ⟨v, rfl, r⟩ := ha.one_inv
  obtain ⟨t, rfl⟩ := r.int_inv
  exact ⟨a, t, rfl, k⟩
theorem tupOr_at (ha : VRs h as vs) {L : List AV → Prop} {P : Prop} (w : tupOr as L P) : (∃ a us l, vs = [.ref a] ∧ IsTp h a us ∧ VRs h l us ∧ L l) ∨ P := by
  rcases tupOr_inv w with ⟨l, rfl, k⟩ | k
  · obtain ⟨v, rfl, r⟩ := ha.one_inv
    obtain ⟨a, us, rfl, p, q⟩ := r.tup_inv
    exact .inl ⟨a, us, l, rfl, p, q, k⟩
  · exact .inr k
theorem int2Or_at (ha : VRs h as vs) {K : Int → Int → Prop} {P : Prop} (w : int2Or as K P) : (∃ a t b u, vs = [.int a t, .int b u] ∧ K a b) ∨ P := by
  rcases int2Or_inv w with ⟨a, b, rfl, k⟩ | k
  · obtain ⟨v, w, rfl, p, q⟩ := ha.two_inv
    obtain ⟨t, rfl⟩ := p.int_inv
    obtain ⟨u, rfl⟩ := q.int_inv
    exact .inl ⟨a, t, b, u, rfl, k⟩
  · exact .inr k
end

theorem lt_big {n : Nat} (h : n < 1000000) : (n : Int) < 2 ^ 63 := by omega
theorem len_sound (OA : OkA d A) (R : RS C sc Pr env σ s) {as : List AV} {vs : List Value} (ha : VRs s.heap as vs) (h : primW .len as Q σ) :
    wpAny (model C.prog C.w) A (call (.builtin "len") vs) (PV C sc Pr env s.heap Q) E s := by
  have hh := OA.handled
  rcases tupOr_at ha h with ⟨a, us, l, rfl, ht, hs, h⟩ | h
  · have q := hs.length
    refine len_tuple (items := _) (let ⟨n, e⟩ := ht; ⟨_, e, rfl, n, rfl⟩) (by rw [List.size_toArray, q]; exact lt_big h.1) (PV.pure R _ ?_ h.2)
    rw [List.size_toArray, q]; exact .int _ _
  · obtain ⟨a, rfl, h⟩ := ref1_at ha h
    generalize e : σ.heap a = o at h
    rcases o with _ | o
    · exact False.elim h
    cases o with
    | list l =>
      obtain ⟨vs, hl, hv⟩ := R.isList e
      have q := hv.length
      refine Calls.call_len_list hl (by rw [List.size_toArray, q]; exact lt_big h.1) (PV.pure R _ ?_ h.2)
      rw [List.size_toArray, q]; exact .int _ _
    | script l =>
      obtain ⟨ob, e1, hc, vs, m, hd, hi⟩ := R.trk _ _ e
      have q : vs.size = l.length := by rw [← hi.length]; exact Array.length_toList.symm
      refine Calls.call_len_list (items := vs) ⟨ob, e1, hc, m, hd⟩ (by rw [q]; exact lt_big h.1) (PV.pure R _ ?_ h.2)
      rw [q]; exact .int _ _
    | _ => exact False.elim h
theorem min_sound (OA : OkA d A) (R : RS C sc Pr env σ s) {as : List AV} {vs : List Value} (ha : VRs s.heap as vs) (h : ref1 as fun a => ∃ ns, IsInts σ a ns ∧ ns ≠ [] ∧ ∀ k, k ∈ ns → (∀ j ∈ ns, k ≤ j) → Q (.int k) σ) :
    wpAny (model C.prog C.w) A (call (.builtin "min") vs) (PV C sc Pr env s.heap Q) E s := by
  obtain ⟨a, rfl, ns, ⟨e, hl⟩, hne, h⟩ := ref1_at ha h
  obtain ⟨vs, hl', hv⟩ := R.isList e
  have hi := hv.ints
  obtain ⟨xs, ex⟩ := hi.allInts.items
  have hns : ns = xs.toList.map (·.1) := by rw [← hi.numsOf, ← nums_intItems, ← ex]
  have hsz : 0 < xs.size := by
    have : 0 < ns.length := List.length_pos_iff.mpr hne
    rw [hns, List.length_map, Array.length_toList] at this; exact this
  rw [ex] at hl'
  refine PySem.min_intList OA.handled hl' hsz fun v h' tk hv hk => ?_
  obtain ⟨t, rfl⟩ := intItems_at hv
  obtain ⟨h1, h2⟩ := argBest_lt (numAt xs) (xs.size - 1)
  refine PV.kept R hk (.int _ _) (h _ ?_ fun a ha => ?_)
  · rw [hns, numAt_eq]; exact PySem.getD_mem (by rw [List.length_map, Array.length_toList]; omega)
  · rw [hns] at ha
    obtain ⟨j, hj, rfl⟩ := mem_getD ha
    rw [List.length_map, Array.length_toList] at hj
    rw [← numAt_eq]; exact h2 j (by omega)
theorem range_inv {as : List AV} {K : Int → Int → Prop} (h : match as with
    | [.range a b] => K a b
    | _ => False) : ∃ a b, as = [.range a b] ∧ K a b := by
  rcases as with _ | ⟨a, _ | ⟨b, l⟩⟩
  · exact h.elim
  · cases a <;> first | exact h.elim | exact ⟨_, _, rfl, h⟩
  · cases a <;> exact h.elim
theorem listP_sound (OA : OkA d A) (R : RS C sc Pr env σ s) {as : List AV} {vs : List Value} (ha : VRs s.heap as vs) (h : primW .list as Q σ) :
    wpAny (model C.prog C.w) A (call (.type "list") vs) (PV C sc Pr env s.heap Q) E s := by
  obtain ⟨lo, hi, rfl, h1, h2, h⟩ := range_inv (K := fun lo hi => lo.natAbs < 1000000 ∧ hi.natAbs < 1000000 ∧ ∀ b, σ.heap b = none → Q (.ref b) (σ.ins b (.list ((rangeL lo hi).map .int)))) h
  obtain ⟨v, rfl, r⟩ := ha.one_inv
  obtain ⟨a, t, u, w, rfl, hr⟩ : ∃ a t u w, v = .ref a ∧ IsRange s.heap a lo hi 1 t u w := r.inv
  obtain ⟨q1, q2⟩ := small_range (lo := lo) (hi := hi) (Nat.lt_trans h1 (by decide)) (Nat.lt_trans h2 (by decide))
  exact call_list_range OA.handled hr q1 q2 (by clear h hr; omega) fun h' tk acc' c' hk hg hi => PV.made (o := .list ((rangeL _ _).map .int)) R hk (get_size _) hg ⟨_, _, rfl, VRs.of_ints (itemsOf_ints hi)⟩ h
theorem isinst_inv {as : List AV} {K : Addr → Prop} (h : match as with
    | [.ref a, .val (.type n)] => n = "list" ∧ K a
    | _ => False) : ∃ x, as = [.ref x, .val (.type "list")] ∧ K x := by
  rcases as with _ | ⟨a, _ | ⟨b, _ | ⟨c, l⟩⟩⟩
  · exact h.elim
  · cases a <;> exact h.elim
  · cases a with
    | ref x => cases b with
      | val v => cases v with
        | type n => obtain ⟨rfl, h⟩ := h; exact ⟨x, rfl, h⟩
        | _ => exact h.elim
      | _ => exact h.elim
    | _ => exact h.elim
  · cases a with
    | ref x => cases b with
      | val v => cases v <;> exact h.elim
      | _ => exact h.elim
    | _ => exact h.elim
theorem isinst_sound (OA : OkA d A) (R : RS C sc Pr env σ s) {as : List AV} {vs : List Value} (ha : VRs s.heap as vs) (h : primW .isinstance as Q σ) :
    wpAny (model C.prog C.w) A (call (.builtin "isinstance") vs) (PV C sc Pr env s.heap Q) E s := by
  obtain ⟨x, rfl, l, e, h⟩ := isinst_inv (K := fun a => ∃ l, σ.heap a = some (.list l) ∧ Q (.bool true) σ) h
  obtain ⟨v, w, rfl, p, q⟩ := ha.two_inv
  obtain rfl := p.ref_inv
  obtain rfl := q.val_inv
  obtain ⟨vs, hl', hv⟩ := R.isList e
  exact call_isinstance (isinstance_true (Tx := "list") F.isi_meta_list (by rw [isSubtype_type]; kernel_rfl)) ⟨hl'.typeIs, PV.pure' R (.bool _) h⟩
theorem prim_sound (K : CxOk C) (OA : OkA d A) (R : RS C sc Pr env σ s) {p : Prim} {as : List AV} {vs : List Value} (ha : VRs s.heap as vs) (h : primW p as Q σ) :
    wpAny (model C.prog C.w) A (call p.value vs) (PV C sc Pr env s.heap Q) E s := by
  have hh := OA.handled
  cases p with
  | len => exact len_sound OA R ha h
  | range =>
    rcases int2Or_at ha h with ⟨a, t, b, u, rfl, h⟩ | h
    · exact call_range_2 (PV.kept R (fun c o e => Heap.get?_push_of_some _ e) (.range (IsRange.new ..)) h.2.2)
    · obtain ⟨a, t, rfl, h⟩ := int1_at ha h
      exact call_range_1 (PV.kept R (fun c o e => Heap.get?_push_of_some _ e) (.range (IsRange.new ..)) h.2)
  | sum =>
    obtain ⟨a, rfl, ns, e, hl, h⟩ := ref1_at ha h
    obtain ⟨ob, e1, hc, vs, m, hd, hi⟩ := R.trk _ _ e
    obtain ⟨xs, ex⟩ := hi.allInts.items
    have ev : vs = intItems xs := by rw [← ex]
    have hns : ns = xs.toList.map (·.1) := by rw [← hi.numsOf, ← nums_intItems, ev]
    refine PySem.sum_intListG hh (xs := xs) ⟨ob, e1, hc, m, by rw [hd, ev]⟩ fun h' tk t' hk => PV.kept R hk (.int _ _) ?_
    rw [preSum_eq, List.take_of_length_le (by simp), ← hns]; exact h
  | min =>
    rcases int2Or_at ha h with ⟨x, t, y, u, rfl, h⟩ | h
    · refine PySem.min_two_ints hh fun h' tk hk => ?_
      by_cases c : y < x
      · rw [if_pos c] at h ⊢; exact PV.kept R hk (.int _ _) h
      · rw [if_neg c] at h ⊢; exact PV.kept R hk (.int _ _) h
    · exact min_sound OA R ha h
  | max =>
    rcases int2Or_at ha h with ⟨x, t, y, u, rfl, h⟩ | h
    · refine PySem.max_two_ints hh fun h' tk hk => ?_
      by_cases c : y > x
      · rw [if_pos c] at h ⊢; exact PV.kept R hk (.int _ _) h
      · rw [if_neg c] at h ⊢; exact PV.kept R hk (.int _ _) h
    · exact h.elim
  | sorted =>
    rcases tupOr_at ha h with ⟨a, us, l, rfl, ⟨n, ht⟩, hs, ns, rfl, hl, h⟩ | h
    · exact sorted_seq (.inr rfl) ht rfl rfl hs.ints hl fun h' b out e ms hk hb hg hi hp hw => PV.made (o := .list (ms.map .int)) R hk hb hg ⟨_, _, rfl, VRs.of_ints hi⟩ fun a ha => h ms a hp hw ha
    · obtain ⟨a, rfl, ns, ⟨e, _⟩, hl, h⟩ := ref1_at ha h
      obtain ⟨vs, n, hl', hv⟩ := R.list e
      exact sorted_seq (.inl rfl) hl' rfl rfl hv.ints hl fun h' b out e ms hk hb hg hi hp hw => PV.made (o := .list (ms.map .int)) R hk hb hg ⟨_, _, rfl, VRs.of_ints hi⟩ fun a ha => h ms a hp hw ha
  | list => exact listP_sound OA R ha h
  | tuple =>
    obtain ⟨a, rfl, l, e, hl, h⟩ := ref1_at ha h
    obtain ⟨vs, hl', hv⟩ := R.isList e
    have q := hv.length
    refine call_tuple_list hl' (fun h' hk => ?_) (by rw [List.size_toArray, q]; unfold sizeLine; clear hl' hv h e q; omega)
    have hk' : ∀ c o, s.heap.get? c = some o → (h'.push { cls := .type "tuple", data := .seq vs.toArray }).get? c = some o := fun c o e => Heap.get?_push_of_some _ (hk c o e)
    exact PV.kept R hk' (.tup ⟨0, Heap.get?_push_size _ rfl⟩ (hv.mono (.of_keeps hk'))) h
  | set =>
    cases as with
    | cons _ _ => exact h.elim
    | nil =>
    obtain rfl := ha.nil_inv
    exact call_set_0 fun led => PV.push (o := .set []) R (setObjOf_fresh (knd := intKind C.prog C.w) led |> fun x => by
      have : (fun k => decide (k ∈ ([] : List Int))) = fun _ => false := by funext k; simp
      show Obj.SetObjOf _ _ (fun k => decide (k ∈ ([] : List Int))) 0
      rw [this]; exact x) rfl h
  | iter =>
    obtain ⟨a, rfl, l, e, h⟩ := ref1_at ha h
    obtain ⟨vs, hl', hv⟩ := R.isList e
    exact call_iter_list hl' (PV.push (o := .iter _ 0) R rfl rfl h)
  | isinstance => exact isinst_sound OA R ha h
  | type =>
    obtain ⟨a, t, rfl, h⟩ := int1_at ha h
    exact call_type_of (Tx := "int") rfl (by decide) (PV.pure' R (.val _) h)
end
end Mine

end

section
open PySem PySem.W PyProof.Rows PySem.Calls
set_option Elab.async false
set_option backward.match.sparseCases false
set_option maxRecDepth 100000
namespace Mine
section
variable {C : Cx} {sc : Sc} {Pr : Prt} {env : Env} {σ : AS} {s : Shared} {A : Around} {E : Value → Shared → Prop} {Q : VK} {d : Nat}

theorem PV.upd (R : RS C sc Pr env σ s) {a : Addr} {l l' : List AV} {vs : Array Value} {n : Nat} (e : σ.heap a = some (.list l)) (hl : IsL s.heap a vs n) (f : Array Value → Array Value) (hv : VRs s.heap l' (f vs).toList)
    {v : Value} {av : AV} (hr : VR s.heap av v) (h : Q av (σ.ins a (.list l'))) : PV C sc Pr env s.heap Q v { s with heap := s.heap.update a (Obj.mapSeq f) } := by
  obtain ⟨r1, r2⟩ := R.updList (l' := l') e hl f hv s.toks
  exact ⟨av, _, hr.mono r2, r1, r2, h⟩

theorem not_long {n m : Nat} (h1 : n < 1000000) (h2 : m < 1000000) (b : Bool) : ¬ (b && Builtin.List.listTooLong (n + m)) = true := by
  simp [Builtin.List.listTooLong, sizeLine]; omega

theorem erase_at {vs : Array Value} {k : Nat} (h : k < vs.size) : (vs.eraseIdxIfInBounds k).toList = vs.toList.eraseIdx k := by
  unfold Array.eraseIdxIfInBounds
  rw [dif_pos h, Array.toList_eraseIdx]

theorem idxOf_first {ns : List Int} {k : Int} (h : k ∈ ns) : ns.idxOf k < ns.length ∧ ns[ns.idxOf k]? = some k ∧ ∀ m, m < ns.idxOf k → ns[m]? ≠ some k := by
  have hl := List.idxOf_lt_length_of_mem h
  refine ⟨hl, by rw [List.getElem?_eq_getElem hl]; simp, fun m hm e => ?_⟩
  have hm' : m < ns.length := Nat.lt_trans hm hl
  rw [List.getElem?_eq_getElem hm'] at e
  have := List.not_of_lt_findIdx (p := (· == k)) (xs := ns) (i := m) hm
  simp at this
  exact this (Option.some.inj e)

theorem isInt_get {vs : List Value} {ns : List Int} (hi : IntsAre vs ns) {j : Nat} {n : Int} (h : ns[j]? = some n) (k : Int) : ∃ hj : j < vs.toArray.size, isInt k vs.toArray[j] = (n == k) := by
  obtain ⟨t, e⟩ := hi.get j n h
  have hj : j < vs.length := (List.getElem?_eq_some_iff.mp e).1
  refine ⟨by simpa using hj, ?_⟩
  have : vs[j] = .int n t := (List.getElem?_eq_some_iff.mp e).2
  simp only [List.getElem_toArray, this, isInt]

theorem listMeth_sound (R : RS C sc Pr env σ s) {a : Addr} {l : List AV} {m : String} {as : List AV} {vs : List Value} (e : σ.heap a = some (.list l)) (ha : VRs s.heap as vs) (h : biMethW a (.list l) m as Q σ) :
    wpAny (model C.prog C.w) A (call (.builtin ("list." ++ m)) (.ref a :: vs)) (PV C sc Pr env s.heap Q) E s := by
  obtain ⟨xs, n, hl, hv⟩ := R.list e
  have hq : xs.size = l.length := by rw [← hv.length]; simp
  unfold biMethW at h
  obtain ⟨hlen, h⟩ := h
  have hz : xs.size ≤ sizeLine := by unfold sizeLine; omega
  split at h
  · rename_i hm; subst hm
    obtain ⟨v, rfl, h⟩ := h
    obtain ⟨w, rfl, a1⟩ := ha.one_inv
    exact call_meets F.slot_list_append ⟨_, hl, rfl⟩ F.entry_list_append (F.args_list_append_2 _ _) (PySem.list_append _ xs n _ hz) ⟨hl, PV.upd R e hl _ (by simpa using hv.append (.cons a1 .nil)) .none h⟩
  split at h
  · rename_i hm; subst hm
    rcases h with ⟨l', rfl, hl', h⟩ | ⟨b, l', rfl, eb, hl', h⟩
    · obtain ⟨w, rfl, a1⟩ := ha.one_inv
      obtain ⟨_, us, rfl, ⟨k, ht⟩, hs⟩ := a1.tup_inv
      have q2 : us.toArray.size = l'.length := by rw [← hs.length]; simp
      refine call_meets F.slot_list_extend ⟨_, hl, rfl⟩ F.entry_list_extend (F.args_list_extend_2 _ _) (AutoSeq1.list_extend_list_tuple_0 _ xs n _ us.toArray k (not_long (by omega) (by omega) _) hz (by unfold sizeLine; omega)) ⟨hl, ht, PV.upd R e hl _ ?_ .none h⟩
      simpa using hv.append hs
    · obtain ⟨w, rfl, a1⟩ := ha.one_inv
      obtain rfl := a1.ref_inv
      obtain ⟨us, k, hb, hs⟩ := R.list eb
      have q2 : us.size = l'.length := by rw [← hs.length]; simp
      refine call_meets F.slot_list_extend ⟨_, hl, rfl⟩ F.entry_list_extend (F.args_list_extend_2 _ _) (AutoSeq1.list_extend_list_list_0 _ xs n _ us k (not_long (by omega) (by omega) _) hz (by unfold sizeLine; omega)) ⟨hl, hb, PV.upd R e hl _ ?_ .none h⟩
      simpa using hv.append hs
  split at h
  · rename_i hm; subst hm
    rcases h with ⟨rfl, l', v, rfl, h⟩ | ⟨k, v, rfl, h0, hk, h⟩
    · obtain rfl := ha.nil_inv
      obtain ⟨y, hy1, hy2⟩ := hv.get (k := l'.length) (x := v) (by simp)
      have hy3 : xs[xs.size - 1]? = some y := by
        have : xs.size - 1 = l'.length := by simp at hq; omega
        rw [this]; simpa using hy1
      refine call_meets F.slot_list_pop ⟨_, hl, rfl⟩ F.entry_list_pop (F.args_list_pop_1 _) (MeetsSeq.list_pop_last _ xs n y hy3 hz) ⟨hl, PV.upd R e hl _ ?_ hy2 h⟩
      have hlt : xs.size - 1 < xs.size := by simp at hq; omega
      rw [erase_at hlt]
      have h1 : xs.size - 1 = l'.length := by simp at hq; omega
      have := hv.erase (xs.size - 1)
      rw [h1, List.eraseIdx_append_of_length_le (Nat.le_refl _)] at this
      simpa [h1] using this
    · obtain ⟨w, rfl, a1⟩ := ha.one_inv
      obtain ⟨t, rfl⟩ := a1.int_inv
      obtain ⟨y, hy1, hy2⟩ := hv.get hk
      have hlt : k.toNat < l.length := (List.getElem?_eq_some_iff.mp hk).1
      refine call_meets F.slot_list_pop ⟨_, hl, rfl⟩ F.entry_list_pop (F.args_list_pop_2 _ _) (MeetsSeq.list_pop_at _ xs n k _ k.toNat y (by simp [Builtin.List.listFitsIndex]; omega) ?_ (by simpa using hy1) hz) ⟨hl, PV.upd R e hl _ ?_ hy2 h⟩
      · unfold seqIndex?
        have hk1 : ¬ k < 0 := by omega
        have hk2 : (decide (0 ≤ k) && decide (k < (xs.size : Int))) = true := by simp; omega
        simp only [hk1, if_false, hk2, if_true]
      · rw [erase_at (by omega)]; exact hv.erase _
  split at h
  · rename_i hm; subst hm
    obtain ⟨rfl, h⟩ := h
    obtain rfl := ha.nil_inv
    exact call_meets F.slot_list_clear ⟨_, hl, rfl⟩ F.entry_list_clear (F.args_list_clear_1 _) (AutoSeq1.list_clear_list_0 _ xs n hz) ⟨hl, PV.upd R e hl _ (by simpa using VRs.nil) .none h⟩
  split at h
  · rename_i hm; subst hm
    obtain ⟨k, ns, rfl, rfl, hk, h⟩ := h
    obtain ⟨w, rfl, a1⟩ := ha.one_inv
    obtain ⟨t, rfl⟩ := a1.int_inv
    have hi := hv.ints
    obtain ⟨f1, f2, f3⟩ := idxOf_first hk
    obtain ⟨j1, j2⟩ := isInt_get hi f2 k
    have hlen' : ns.length < 1000000 := by simpa using hlen
    refine call_meets F.slot_list_index ⟨_, hl, rfl⟩ F.entry_list_index (F.args_list_index_2 _ _) (MeetsSeq.list_index _ xs n (.int k t) (isInt k) (fun y hy => eq_isInt k t hi y (by simpa using hy)) (ns.idxOf k) (by simpa using j1) (by omega) (by simpa using j2) (fun m hm hlt => ?_)) ⟨hl, PV.pure R _ (.int _ _) h⟩
    have hm2 : m < ns.length := by omega
    obtain ⟨i1, i2⟩ := isInt_get hi (j := m) (n := ns[m]) (by simp [hm2]) k
    have : ns[m] ≠ k := fun q => f3 m hlt (by simp [hm2, q])
    have i3 : (ns[m] == k) = false := by simpa using this
    rw [i3] at i2
    simpa using i2
  split at h
  · rename_i hm; subst hm
    obtain ⟨k, ns, rfl, rfl, h⟩ := h
    obtain ⟨w, rfl, a1⟩ := ha.one_inv
    obtain ⟨t, rfl⟩ := a1.int_inv
    have hi := hv.ints
    refine call_meets F.slot_list_count ⟨_, hl, rfl⟩ F.entry_list_count (F.args_list_count_2 _ _) (MeetsSeq.list_count _ xs n (.int k t) (isInt k) (fun y hy => eq_isInt k t hi y (by simpa using hy))) ⟨hl, PV.pure R _ ?_ h⟩
    have : ∀ {us : List Value} {ms : List Int}, IntsAre us ms → us.countP (isInt k) = ms.count k := by
      intro us ms x
      induction x with
      | nil => rfl
      | cons i u _ ih => rw [List.countP_cons, List.count_cons, ih]; rfl
    rw [this hi]; exact .int _ _
  · exact h.elim

theorem dictMeth_sound (K : CxOk C) (R : RS C sc Pr env σ s) {a : Addr} {l : List (Int × AV)} {ep : Nat} {m : String} {as : List AV} {vs : List Value} (e : σ.heap a = some (.dict l ep)) (ha : VRs s.heap as vs) (h : biMethW a (.dict l ep) m as Q σ) :
    wpAny (model C.prog C.w) A (call (.builtin ("dict." ++ m)) (.ref a :: vs)) (PV C sc Pr env s.heap Q) E s := by
  obtain ⟨kvs, hd, hk⟩ := R.dict e
  have hm := (dictOf_of_at hd).mapOf
  unfold biMethW at h
  dsimp only at h
  split at h
  · rename_i hm'; subst hm'
    obtain ⟨k, rfl, h⟩ := h
    obtain ⟨w, rfl, a1⟩ := ha.one_inv
    obtain ⟨t, rfl⟩ := a1.int_inv
    refine call_meetsIn F.slot_dict_get hm.typeIs F.entry_dict_get (F.args_dict_get_2 _ _) (meets_dict_get (intKind C.prog C.w) a (intKind_is _ _ _ _) (R.not_sys e (by nofun) K.sys)) ⟨_, hm, PV.pure R _ ?_ h⟩
    have := hk.get k
    generalize l.lookup k = x at *
    generalize valueAt kvs k = y at *
    cases this with
    | none => exact .none
    | some q => exact q
  split at h
  · rename_i hm'; subst hm'
    obtain ⟨rfl, h⟩ := h
    obtain rfl := ha.nil_inv
    exact call_meetsIn F.slot_dict_values hm.typeIs F.entry_dict_values (F.args_dict_values_1 _) (meets_dict_values (intKind C.prog C.w) a (R.not_sys e (by nofun) K.sys))
      ⟨⟨kvs, dictOf_of_at hd⟩, PV.kept R (fun c o e => Heap.get?_push_of_some _ e) (.vals ⟨_, Heap.get?_push_size _ rfl, rfl, rfl⟩) h⟩
  · exact h.elim

theorem setMeth_sound (R : RS C sc Pr env σ s) {a : Addr} {l : List Int} {m : String} {as : List AV} {vs : List Value} (e : σ.heap a = some (.set l)) (ha : VRs s.heap as vs) (h : biMethW a (.set l) m as Q σ) :
    wpAny (model C.prog C.w) A (call (.builtin ("set." ++ m)) (.ref a :: vs)) (PV C sc Pr env s.heap Q) E s := by
  unfold biMethW at h
  dsimp only at h
  split at h
  · rename_i hm'; subst hm'
    obtain ⟨k, rfl, hl, h⟩ := h
    obtain ⟨w, rfl, a1⟩ := ha.one_inv
    obtain ⟨t, rfl⟩ := a1.int_inv
    refine call_set_add (intKind_is _ _ k _) rfl (R.setOf e hl) (by unfold scanBound; omega) fun h' hs' hS => ?_
    have hi := R.put_imm hs'.extBut (.inl ⟨_, e, by nofun⟩)
    obtain ⟨o, ho, hso⟩ := hS.objOf
    refine ⟨.none, _, .none, R.put (o := .set (if k ∈ l then l else k :: l)) hs'.extBut ho ?_ (.inl ⟨_, e, by nofun⟩), hi, h⟩
    have e1 : (fun k' => decide (k' ∈ l) || decide (k' = k)) = fun k' => decide (k' ∈ (if k ∈ l then l else k :: l)) := by
      funext k'
      by_cases q : k ∈ l
      · rw [if_pos q, Bool.eq_iff_iff]; simp; rintro rfl; exact q
      · rw [if_neg q, Bool.eq_iff_iff]; simp [or_comm]
    have e2 : (if decide (k ∈ l) = true then l.length else l.length + 1) = (if k ∈ l then l else k :: l).length := by
      by_cases q : k ∈ l <;> simp [q]
    show Obj.SetObjOf _ o (fun k' => decide (k' ∈ (if k ∈ l then l else k :: l))) (if k ∈ l then l else k :: l).length
    rw [← e1, ← e2]; exact hso
  · exact h.elim

end
end Mine

end

section
open PySem PySem.W PyProof.Rows PySem.Calls
set_option Elab.async false
set_option backward.match.sparseCases false
set_option maxRecDepth 100000
namespace Mine

theorem li_ga : Slot "list_iterator" "__getattribute__" "object.__getattribute__" :=
  .of (owner := "object") (n := "__getattribute__") (by rw [typeLookup_type, builtinLookup_eq_fast]; kernel_rfl) (by decide +kernel) (by decide +kernel) (by decide +kernel)
    (by first | exact .inl (by decide +kernel) | exact .inr (by decide +kernel)) (by rw [isSubtype_type]; kernel_rfl)
theorem li_entry_ga : entryFor table "object.__getattribute__" = some Builtin.«object.__getattribute__» := entryFor_of_tree (by kernel_rfl)
theorem li_args_ga (a b : Value) : argsOk "object.__getattribute__" ⟨[a, b], []⟩ := by unfold argsOk; kernel_rfl
theorem wd_get : Slot "wrapper_descriptor" "__get__" "wrapper_descriptor.__get__" :=
  .of (owner := "wrapper_descriptor") (n := "__get__") (by rw [typeLookup_type, builtinLookup_eq_fast]; kernel_rfl) (by decide +kernel) (by decide +kernel) (by decide +kernel)
    (by first | exact .inl (by decide +kernel) | exact .inr (by decide +kernel)) (by rw [isSubtype_type]; kernel_rfl)
theorem wd_entry : entryFor table "wrapper_descriptor.__get__" = some Builtin.«wrapper_descriptor.__get__» := entryFor_of_tree (by kernel_rfl)
theorem wd_args (a b c : Value) : argsOk "wrapper_descriptor.__get__" ⟨[a, b, c], []⟩ := by unfold argsOk; kernel_rfl
theorem wd_type : typeOf (.builtin "list_iterator.__next__") = pure (.type "wrapper_descriptor") := by kernel_rfl
theorem wd_noset : typeLookup (.type "wrapper_descriptor") "__set__" = pure none := by rw [typeLookup_type, builtinLookup_eq_fast]; kernel_rfl
theorem wd_nodel : typeLookup (.type "wrapper_descriptor") "__delete__" = pure none := by rw [typeLookup_type, builtinLookup_eq_fast]; kernel_rfl
theorem li_owner : (".".intercalate ("list_iterator.__next__".cutAt '.').dropLast) = "list_iterator" := by decide +kernel
theorem li_sub : isSubtype (.type "list_iterator") (.type "list_iterator") = pure true := by rw [isSubtype_type]; kernel_rfl
section
variable {prog : Program} {w : World} {A : Around} {E : Value → Shared → Prop} {h : Heap} {g : Array GenState} {d : Drawn} {t : Nat} {os : OsState} {a : Addr} {o : Obj}
theorem next_get {R : Result → Shared → Prop} (hx : h.get? a = some o) (hc : o.cls = .type "list_iterator")
    (hq : R (.ok (.ret (.ref h.objs.size))) ⟨h.push { cls := .type "method-wrapper", data := .fields #[.builtin "list_iterator.__next__", .ref a] }, g, d, t, os⟩) :
    codeAny (model prog w) A (.call (.builtin "wrapper_descriptor.__get__") ⟨[.builtin "list_iterator.__next__", .ref a, .type "list_iterator"], []⟩) R ⟨h, g, d, t, os⟩ := by
  have hT : (⟨h, g, d, t, os⟩ : Shared).TypeIs (.ref a) "list_iterator" := ⟨_, hx, hc⟩
  have hT5 : (⟨h, g, d, t, os⟩ : Shared).TypeIs (.builtin "list_iterator.__next__") "wrapper_descriptor" := wd_type
  have f8 : isSubtype (.type "list_iterator") (.type (".".intercalate ("list_iterator.__next__".cutAt '.').dropLast)) = pure true := by rw [li_owner]; exact li_sub
  refine codeAny_call_builtin wd_get.plain wd_entry (wd_get.check _ _ _ _ _ _ _ _ hT5 (wd_args _ _ _) ?_)
  repeat (any_goals (first | assumption | wp_step))
theorem next_entry {tk : Tok} {Q : Fin → Shared → Prop} {vs : Array Value} {sl : Array (Option Value)} (hx : h.get? a = some ⟨.type "list_iterator", none, .fields vs, sl⟩)
    (hq : Q (.done (.ret (.ref h.objs.size))) ⟨h.push { cls := .type "method-wrapper", data := .fields #[.builtin "list_iterator.__next__", .ref a] }, g, d, t, os⟩) :
    wpAny (model prog w) A (Builtin.«object.__getattribute__» ⟨[.ref a, .str "__next__" tk], []⟩) Q E ⟨h, g, d, t, os⟩ := by
  have hT : (⟨h, g, d, t, os⟩ : Shared).TypeIs (.ref a) "list_iterator" := ⟨_, hx, rfl⟩
  have hT5 : (⟨h, g, d, t, os⟩ : Shared).TypeIs (.builtin "list_iterator.__next__") "wrapper_descriptor" := wd_type
  have f4 := slot_listiter_next.lookup
  have f5 := wd_type
  have f6 := wd_get.lookup
  have f7 := wd_noset
  have f8 := wd_nodel
  repeat (any_goals (first | assumption | wp_step))
  refine next_get hx rfl ?_
  repeat (any_goals (first | assumption | wp_step))
theorem next_call {tk : Tok} {R : Result → Shared → Prop} {vs : Array Value} {sl : Array (Option Value)} (hx : h.get? a = some ⟨.type "list_iterator", none, .fields vs, sl⟩)
    (hq : R (.ok (.ret (.ref h.objs.size))) ⟨h.push { cls := .type "method-wrapper", data := .fields #[.builtin "list_iterator.__next__", .ref a] }, g, d, t, os⟩) :
    codeAny (model prog w) A (.call (.builtin "object.__getattribute__") ⟨[.ref a, .str "__next__" tk], []⟩) R ⟨h, g, d, t, os⟩ :=
  codeAny_call_builtin li_ga.plain li_entry_ga (li_ga.check _ _ _ _ _ _ _ _ (show (⟨h, g, d, t, os⟩ : Shared).TypeIs (.ref a) "list_iterator" from ⟨_, hx, rfl⟩) (li_args_ga _ _) (next_entry hx hq))
theorem next_attr {ex : Bool} {Q : Value → Shared → Prop} {vs : Array Value} {sl : Array (Option Value)} (hx : h.get? a = some ⟨.type "list_iterator", none, .fields vs, sl⟩)
    (hq : Q (.ref h.objs.size) ⟨h.push { cls := .type "method-wrapper", data := .fields #[.builtin "list_iterator.__next__", .ref a] }, g, d, t + 1, os⟩) :
    wpAny (model prog w) A (getAttr (.ref a) "__next__" ex) Q E ⟨h, g, d, t, os⟩ := by
  have hx' : (⟨h, g, d, t + 1, os⟩ : Shared).heap.get? a = some ⟨.type "list_iterator", none, .fields vs, sl⟩ := hx
  have hT : (⟨h, g, d, t + 1, os⟩ : Shared).TypeIs (.ref a) "list_iterator" := ⟨_, hx, rfl⟩
  have f2 := li_ga.lookup
  have f3 := li_ga.bind (.ref a)
  have hx0 : (ex && onTheHeap (Value.builtin "object.__getattribute__")) = false := by cases ex <;> rfl
  unfold getAttr
  repeat (any_goals (first | assumption | wp_step))
  refine next_call hx ?_
  repeat (any_goals (first | assumption | wp_step))
end

/-- a class of the text, as the written part of the heap shows it -/
structure ClsOk (K : Frag) (c : Addr) : Prop where
  ga : findIn K (.ref c) "__getattribute__" = some (some (.builtin "object.__getattribute__"))
  gt : findIn K (.ref c) "__getattr__" = some none
  sa : findIn K (.ref c) "__setattr__" = some (some (.builtin "object.__setattr__"))
  over : plainOver K c = true
  makes : makesIn K c = true

structure AttrOk (K : Frag) (c : Addr) (m : String) : Prop extends ClsOk K c where
  no : findIn K (.ref c) (Str.ofString m) = some none
  dict : (clsIn K c).any (·.hasDict) = true

structure SlotOk (K : Frag) (c : Addr) (m : String) (k : Nat) (p : Addr) : Prop extends ClsOk K c where
  at_ : findIn K (.ref c) (Str.ofString m) = some (some (.ref p))
  slot : slotIn K p c = some k
  get : specialIn K (.ref p) "__get__" = some (some (.builtin "member_descriptor.__get__"))
  takes : takesIn K (.ref p) = some true
  ty : typeIn K (.ref p) = some (.type "member_descriptor")
  small : k < 100

structure MethOk (K : Frag) (c : Addr) (m : String) (f : Addr) : Prop extends ClsOk K c where
  at_ : findIn K (.ref c) (Str.ofString m) = some (some (.ref f))
  ty : typeIn K (.ref f) = some (.type "function")
  get : specialIn K (.ref f) "__get__" = some (some (.builtin "function.__get__"))
  takes : takesIn K (.ref f) = some false
  cp : copiedNames.contains (Str.ofString m) = false

structure TbOk (K : Frag) (T : Tb) : Prop where
  attrs : ∀ c m, m ∈ T.attrs c → AttrOk K c m
  slots : ∀ c ss m k, T.slots c = some ss → ss.idxOf? m = some k → ∃ p, SlotOk K c m k p
  meth : ∀ c m f, T.meth c m = some f → MethOk K c m f

section
variable {C : Cx} {sc : Sc} {Pr : Prt} {env : Env} {σ : AS} {s : Shared} {A : Around} {E : Value → Shared → Prop} {Q : VK} {d : Nat} {K : Frag} {T : Tb}

theorem RS.frag (R : RS C sc Pr env σ s) (X : K.In C.s₁.heap) : K.In s.heap := X.keeps R.keep

theorem lookIn_of {o : Obj} {es : Array DictEntry} {ep : Nat} (hd : o.data = .dict es ep) (hk : StrKeys es) (x : Str) : lookIn x o = some (nsFind es x) := by
  unfold lookIn
  rw [hd]
  dsimp only
  unfold nsFind findBy
  rw [← Array.find?_toList]
  split
  · rename_i e he; rw [he]; rfl
  · rename_i he
    rw [he]
    have : es.toList.any (·.refKey) = false := by
      rw [List.any_eq_false]; intro e hm; obtain ⟨n, t, q⟩ := hk e (by simpa using hm); simp [DictEntry.refKey, q]
    rw [this]; rfl

theorem RS.inst (R : RS C sc Pr env σ s) {a c dd : Addr} (e : σ.heap a = some (.inst c dd)) {l : List (String × AV)} (e2 : σ.heap dd = some (.ns l)) :
    ∃ od es ep, And7 (InstAt s.heap a (instObj c dd) c (some od)) (s.heap.get? dd = some od) (od.cls = .type "dict") (od.data = .dict es ep) (es.size ≤ l.length) (StrKeys es) (∀ x : String, OV s.heap (l.lookup x) (nsFind es (Str.ofString x))) := by
  obtain ⟨ob, h1, rfl⟩ := R.trk _ _ e
  obtain ⟨od, h2, hc, es, ep, hd, hz, hk, hl⟩ := R.trk _ _ e2
  exact ⟨od, es, ep, ⟨h1, rfl, rfl, h2⟩, h2, hc, hd, hz, hk, hl⟩

theorem RS.slotsAt (R : RS C sc Pr env σ s) {a c dd : Addr} {l : List (Option AV)} (e : σ.heap a = some (.slots c dd l)) :
    ∃ ob vs od, ob = ({ cls := .ref c, dict := some dd, data := .plain, slots := vs } : Obj) ∧ InstAt s.heap a ob c (some od) ∧ OVs s.heap l vs.toList := by
  obtain ⟨ob, h1, vs, rfl, hv⟩ := R.trk _ _ e
  obtain ⟨od, h2, _⟩ := R.trk _ _ (R.sl _ _ _ _ e)
  exact ⟨_, vs, od, rfl, ⟨h1, rfl, rfl, h2⟩, hv⟩

theorem handed_plain {h : Heap} {av : AV} {v : Value} (x : VR h av v) (p : av.plain) : handedIn v = true := by
  cases x <;> first | rfl | exact p.elim

theorem OVs.cons_inv {h : Heap} {x : Option AV} {l : List (Option AV)} {vs : List (Option Value)} (a : OVs h (x :: l) vs) : ∃ v ws, vs = v :: ws ∧ OV h x v ∧ OVs h l ws := by
  cases a with
  | cons a b => exact ⟨_, _, rfl, a, b⟩
theorem OVs.nil_inv {h : Heap} {vs : List (Option Value)} (a : OVs h [] vs) : vs = [] := by cases a; rfl
theorem OVs.get {h : Heap} {l : List (Option AV)} {x : Option AV} {vs : List (Option Value)} {k : Nat} (y : OVs h l vs) (e : l[k]? = some x) : ∃ v, vs[k]? = some v ∧ OV h x v := by
  induction l generalizing vs k with
  | nil => exact nomatch e
  | cons a l ih =>
    obtain ⟨v, ws, rfl, b, z⟩ := y.cons_inv
    cases k with
    | zero => cases e; exact ⟨_, rfl, b⟩
    | succ k => exact ih (vs := ws) (k := k) z e
theorem OVs.length {h : Heap} {l : List (Option AV)} {vs : List (Option Value)} (x : OVs h l vs) : vs.length = l.length := by
  induction l generalizing vs with
  | nil => rw [x.nil_inv]; rfl
  | cons a l ih =>
    obtain ⟨v, ws, rfl, _, z⟩ := x.cons_inv
    exact congrArg Nat.succ (ih z)
theorem OVs.append {h : Heap} {l l' : List (Option AV)} {vs vs' : List (Option Value)} (x : OVs h l vs) (y : OVs h l' vs') : OVs h (l ++ l') (vs ++ vs') := by
  induction l generalizing vs with
  | nil => rw [x.nil_inv]; exact y
  | cons a l ih =>
    obtain ⟨v, ws, rfl, b, z⟩ := x.cons_inv
    exact .cons b (ih z)
theorem OVs.nones {h : Heap} (n : Nat) : OVs h (List.replicate n none) (List.replicate n none) := by
  induction n with
  | zero => exact .nil
  | succ n ih => exact .cons .none ih
theorem OVs.set {h : Heap} {x : Option AV} {v : Option Value} (a : OV h x v) {l : List (Option AV)} {vs : List (Option Value)} (k : Nat) (y : OVs h l vs) : OVs h (l.set k x) (vs.set k v) := by
  induction l generalizing vs k with
  | nil => rw [y.nil_inv]; exact .nil
  | cons b l ih =>
    obtain ⟨w, ws, rfl, b, z⟩ := y.cons_inv
    cases k with
    | zero => exact .cons a z
    | succ k => exact .cons b (ih k z)

theorem getAttr_sound (X : K.In C.s₁.heap) (TO : TbOk K T) (R : RS C sc Pr env σ s) {o : AV} {v : Value} {m : String} {ex : Bool} (ho : VR s.heap o v) (h : getAttrW T o m Q σ) :
    wpAny (model C.prog C.w) A (getAttr v (Str.ofString m) ex) (PV C sc Pr env s.heap Q) E s := by
  have XS := R.frag X
  cases o with
  | ref a =>
    obtain rfl := ho.ref_inv
    delta getAttrW at h; dsimp only at h
    generalize e : σ.heap a = ob at h
    rcases ob with _ | ob
    · exact False.elim h
    cases ob with
    | inst c dd =>
      obtain ⟨hm, l, w, e2, hw, hp, h⟩ := h
      have AO := TO.attrs _ _ hm
      obtain ⟨od, es, ep, I, h2, hc, hd, hz, hk, hl⟩ := R.inst e e2
      have q := hl m
      rw [hw] at q
      generalize hy : nsFind es (Str.ofString m) = y at q
      cases q with
      | some q =>
      rename_i w'
      have hf : findObj K c (some od) (Str.ofString m) = some (.value w') := by
        obtain ⟨cd, hcd, hdi⟩ := any_some AO.dict
        unfold findObj W.ownOf
        rw [hcd, AO.no]
        simp only [Option.bind_some, hdi, if_true, lookIn_of hd hk, hy]
      exact get_value XS I AO.ga hf (handed_plain q hp) (PV.pure R _ q h)
    | slots c dd l =>
      obtain ⟨ss, k, w, hss, hk, hl, hp, h⟩ := h
      obtain ⟨p, SO⟩ := TO.slots _ _ _ _ hss hk
      obtain ⟨ob, vs, od, rfl, I, hv⟩ := R.slotsAt e
      obtain ⟨y, hy1, hy2⟩ := hv.get hl
      cases hy2 with
      | some hy2 =>
      rename_i w'
      have hf : findObj K c (some od) (Str.ofString m) = some (.bind (.builtin "member_descriptor.__get__") (.ref p)) := by
        unfold findObj
        have hcd : ∃ cd, clsIn K c = some cd := let ⟨cd, a, _⟩ := any_some SO.over; ⟨cd, a⟩
        obtain ⟨cd, hcd⟩ := hcd
        rw [hcd, SO.at_]
        simp only [Option.bind_some, SO.get, SO.takes]
      have hj : (vs[k]?).join = some w' := by
        have : vs[k]? = some (some w') := by simpa using hy1
        rw [this]; rfl
      refine get_bind XS I SO.ga hf SO.gt (wpAny_call (slot_get (s := { s with toks := s.toks + 1 }) (v := w') XS I SO.slot hj ?_))
      show wpAny _ _ (handedOut w') _ _ _
      rw [handedOut_of (handed_plain hy2 hp)]
      exact wpAny_pure (PV.pure R _ hy2 h)
    | iter l i =>
      obtain ⟨rfl, h⟩ := h
      obtain ⟨ob, e1, rfl⟩ := R.trk _ _ e
      obtain ⟨hh, g, dr, tk, os⟩ := s
      exact next_attr e1 (PV.push (o := .next a) R rfl rfl h)
    | _ => exact False.elim h
  | _ => exact False.elim h


/-- a name is stored in an instance's dict -/
theorem nsSet_size {M : Model} {a : Addr} {o : Obj} {es : Array DictEntry} {ep : Nat} {name : Str} {v : Value} {Q : Unit → Shared → Prop} (ho : s.heap.get? a = some o) (hd : o.data = .dict es ep) (hk : StrKeys es)
    (h : ∀ o' es' ep' h', h'.get? a = some o' → o'.cls = o.cls → o'.data = .dict es' ep' → es'.size ≤ es.size + (if (nsFind es name).isSome then 0 else 1) → StrKeys es' → (∀ x, nsFind es' x = if x = name then some v else nsFind es x) →
      Heap.SameBut a s.heap h' → Q () { s with heap := h', toks := s.toks + 1 }) : wpAny M A (nsSet a name v) Q E s := by
  have hnr : es.any (·.refKey) = false := by
    rw [Array.any_eq_false']; intro e he; obtain ⟨n, t, q⟩ := hk e he; simp [DictEntry.refKey, q]
  unfold nsSet strHash
  refine wpAny_bind (wpAny_bind (wpAny_askSetting (wpAny_pure (wpAny_bind (wpAny_mkText (wpAny_bind (wpAny_loadPart (o := o) ho ?_)))))))
  simp only [hd, aRefKeyMayBeTheName_eq, aRefKeyMayBeTheNameByArray, hnr, Bool.and_false, Bool.false_eq_true, if_false]
  refine wpAny_updatePart (o := o) ho ?_
  obtain ⟨c, dd, dt, sl⟩ := o
  dsimp only at hd; subst hd
  cases hi : es.findIdx? (·.key.isStr name) with
  | some i =>
    refine h _ (es.modify i fun e => { e with val := v }) ep _ (Heap.get?_update_self _ ho (by simp only [Obj.putName_eq, Obj.putNameByArray, hi]; rfl)) ?_ ?_ ?_ (hk.modify _ _) (fun x => ?_) (Heap.SameBut.update ..)
    · simp only [Obj.putName_eq, Obj.putNameByArray, hi]
    · simp only [Obj.putName_eq, Obj.putNameByArray, hi]
    · simp
    · exact findBy_modify (fun n v => v.isStr n) Value.isStr_inj es name x v i hi
  | none =>
    have hn : nsFind es name = none := by
      unfold nsFind; rw [findBy_of_findIdx?, hi]
    refine h _ (es.push _) (ep + 1) _ (Heap.get?_update_self _ ho (by simp only [Obj.putName_eq, Obj.putNameByArray, hi]; rfl)) ?_ (by simp only [Obj.putName_eq, Obj.putNameByArray, hi]; rfl) ?_ (hk.push _ _ _ _) (fun x => ?_) (Heap.SameBut.update ..)
    · simp only [Obj.putName_eq, Obj.putNameByArray, hi]
    · simp [hn]
    · exact findBy_push (fun n v => v.isStr n) es name x _ _ v (fun y => by
        show (name == y) = decide (y = name)
        rw [Bool.eq_iff_iff]; simp; exact eq_comm) hi

open Builtin Builtin.ObjectAttr Builtin.Getset_descriptor in
/-- a slot is stored -/
theorem slotSet {c p x : Addr} {k : Nat} {ob : Obj} {od : Option Obj} {v : Value} {R : Result → Shared → Prop} (X : K.In s.heap) (I : InstAt s.heap x ob c od) (hp : slotIn K p c = some k) (hk : k < 100)
    (h : R (.ok (.ret .none)) { s with heap := s.heap.update x fun o => { o with slots := (o.slots ++ Array.replicate (k + 1 - o.slots.size) none).setIfInBounds k (some v) } }) :
    codeAny (model C.prog C.w) A (.call (.builtin "member_descriptor.__set__") ⟨[.ref p, .ref x, v], []⟩) R s := by
  obtain ⟨n, tn, owner, behind, tb, d, sl, cd, ho, hc, hm, hb, rfl⟩ := slot_of X hp
  obtain ⟨hh, g, dr, t, os⟩ := s
  have L0 := I.type (M := model C.prog C.w)
  have L1 := looks_mroIn (M := model C.prog C.w) X hm
  have L2 : Looks (model C.prog C.w) hh (Builtin.Slots.slotNamesOf (.ref c)) cd.slotNames := (looks_clsIn X hc).andThen .now
  have hx := I.at_
  dsimp only at ho hx L0 L1
  have f0 := looks_field (M := model C.prog C.w) ho 0 (v := .str n tn) rfl
  have f1 := looks_field (M := model C.prog C.w) ho 1 (v := owner) rfl
  have f3 := looks_field (M := model C.prog C.w) ho 3 (v := .builtin "proto.slot#set") rfl
  have f4 := looks_field (M := model C.prog C.w) ho 4 (v := .int behind tb) rfl
  refine codeAny_call_builtin KF.slot_mset.plain KF.entry_mset (KF.slot_mset.check _ _ _ _ _ _ _ _ ⟨_, ho, rfl⟩ (KF.args_mset _ _ _) ?_)
  unfold Builtin.«member_descriptor.__set__» descrSet descrStoreThrough descrCheckInstance descrNameAndClass isInstance
  have f5 : Looks (model C.prog C.w) hh (descrItself (.ref p)) [.ref p] := ((Looks.ld (part := none) ho).andThen .now).andThen (Looks.of_pure (by kernel_rfl))
  repeat lk
  refine ⟨Code.quiet_builtin _ (by decide +kernel), codeAny_builtin KF.entry_slotset ?_⟩
  unfold Builtin.«proto.slot#set» Slots.target
  repeat lk
  rw [if_neg hb]
  refine wpAny_pure (wpAny_bind ?_)
  unfold setSlotAt
  dsimp only
  rw [if_neg (by rw [sizeLine_eq]; omega)]
  exact wpAny_updatePart hx (wpAny_pure h)

theorem nsPut_lookup (l : List (String × AV)) (m : String) (v : AV) (x : String) : (nsPut l m v).lookup x = if x = m then some v else l.lookup x := by
  unfold nsPut
  split
  · rename_i hs
    induction l with
    | nil => simp at hs
    | cons p r ih =>
      obtain ⟨y, w⟩ := p
      rw [List.map_cons]
      by_cases hy : y = m
      · subst hy
        simp only [if_true, List.lookup_cons]
        by_cases hx : x = y
        · subst hx; simp
        · have : (x == y) = false := by simpa using hx
          simp only [this, hx, if_false]
          clear ih hs
          induction r with
          | nil => rfl
          | cons q r ih2 =>
            obtain ⟨z, u⟩ := q
            rw [List.map_cons]
            by_cases hz : z = y
            · subst hz; simp only [if_true, List.lookup_cons, this]; exact ih2
            · simp only [hz, if_false, List.lookup_cons]; cases x == z <;> simp [ih2]
      · have h1 : (m == y) = false := by simpa using fun e => hy e.symm
        rw [List.lookup_cons, h1] at hs
        simp only [hy, if_false, List.lookup_cons]
        by_cases hx : x = y
        · subst hx; simp [hy]
        · have : (x == y) = false := by simpa using hx
          simp only [this]; exact ih hs
  · rename_i hs
    have hn : l.lookup m = none := by cases q : l.lookup m <;> simp_all
    clear hs
    induction l with
    | nil =>
      rw [List.nil_append, List.lookup_cons]
      by_cases hx : x = m
      · simp [hx]
      · have : (x == m) = false := by simpa using hx
        simp [hx, this]
    | cons p r ih =>
      obtain ⟨y, w⟩ := p
      rw [List.lookup_cons] at hn
      have h1 : (m == y) = false := by cases q : m == y <;> simp_all
      rw [h1] at hn
      rw [List.cons_append, List.lookup_cons, List.lookup_cons]
      by_cases hx : x = y
      · subst hx
        have : ¬ x = m := by intro e; subst e; simp at h1
        simp [this]
      · have : (x == y) = false := by simpa using hx
        simp only [this]; exact ih hn
theorem nsPut_length (l : List (String × AV)) (m : String) (v : AV) : (nsPut l m v).length = l.length + (if (l.lookup m).isSome then 0 else 1) := by
  unfold nsPut
  split <;> simp_all

theorem setAttr_sound (X : K.In C.s₁.heap) (TO : TbOk K T) (R : RS C sc Pr env σ s) {o w : AV} {v wv : Value} {m : String} (ho : VR s.heap o v) (hw : VR s.heap w wv) {P : AS → Prop} (h : setAttrW T o m w P σ) :
    wpAny (model C.prog C.w) A (setAttr v (Str.ofString m) wv) (PU C sc Pr env s.heap P) E s := by
  have XS := R.frag X
  cases o with
  | ref a =>
    obtain rfl := ho.ref_inv
    delta setAttrW at h; dsimp only at h
    generalize e : σ.heap a = ob at h
    rcases ob with _ | ob
    · exact False.elim h
    cases ob with
    | inst c dd =>
      obtain ⟨hm, l, e2, hlen, h⟩ := h
      have AO := TO.attrs _ _ hm
      obtain ⟨od, es, ep, I, h2, hc, hd, hz, hk, hl⟩ := R.inst e e2
      have ht : takerIn K c (Str.ofString m) = some none := by unfold takerIn; rw [AO.no]; rfl
      refine set_plain XS I AO.sa (osa_open (s := { s with toks := s.toks + 1 }) XS I AO.over ht fun b => ?_)
      obtain ⟨cd, hcd, hdi⟩ := any_some AO.dict
      have LC : Looks (model C.prog C.w) ({ s with toks := s.toks + 1 } : Shared).heap (classData c) cd := looks_clsIn XS hcd
      refine wpAny_bind (wpAny_pure (wpAny_bind (wpAny_bind (wpAny_loadPart I.at_ (wpAny_bind (LC.here ?_))))))
      rw [hdi]
      refine wpAny_pure (a := some dd) (wpAny_bind (wpAny_pure (wpAny_bind ?_)))
      refine nsSet_size (s := { s with toks := s.toks + 1 }) h2 hd hk fun o' es' ep' h' g1 g2 g3 g4 g5 g6 g7 => ?_
      refine wpAny_bind (wpAny_lookBehind g1 (by rw [g3]; exact pastItsLine_dict (by have : (if (nsFind es (Str.ofString m)).isSome = true then 0 else 1) ≤ 1 := by split <;> omega
                                                                                     unfold sizeLine; omega)) ?_)
      have hi := R.put_imm g7.extBut (.inl ⟨_, e2, by nofun⟩)
      have hq := (hl m).isSome
      refine wpAny_pure ⟨_, R.put (o := .ns (nsPut l m w)) g7.extBut g1 ⟨g2.trans hc, es', ep', g3, ?_, g5, fun x => ?_⟩ (.inl ⟨_, e2, by nofun⟩), hi, h⟩
      · rw [nsPut_length, hq]; omega
      · rw [nsPut_lookup, g6]
        by_cases hx : x = m
        · subst hx; simp only [if_true]; exact .some (hw.mono hi)
        · rw [if_neg hx, if_neg (fun q => hx (ofString_inj q))]; exact (hl x).mono hi
    | slots c dd l =>
      obtain ⟨ss, k, hss, hk, h⟩ := h
      obtain ⟨p, SO⟩ := TO.slots _ _ _ _ hss hk
      obtain ⟨ob, vs, od, rfl, I, hv⟩ := R.slotsAt e
      have ht : takerIn K c (Str.ofString m) = some (some (.ref p)) := by unfold takerIn; rw [SO.at_]; simp only [Option.bind_some, SO.takes, Option.map_some, if_true]
      refine set_plain XS I SO.sa (osa_descr (s := { s with toks := s.toks + 1 }) KF.slot_mset XS I SO.over ht SO.ty (slotSet (s := { s with toks := s.toks + 1 }) XS I SO.slot SO.small ?_))
      have hsb := Heap.SameBut.update s.heap a (fun o => { o with slots := (o.slots ++ Array.replicate (k + 1 - o.slots.size) none).setIfInBounds k (some wv) })
      have hi := R.put_imm hsb.extBut (.inl ⟨_, e, by nofun⟩)
      have q := hv.length
      refine ⟨_, R.put (o := .slots c dd ((l ++ List.replicate (k + 1 - l.length) none).set k (some w))) hsb.extBut (Heap.get?_update_self _ I.at_ rfl) ⟨_, rfl, ?_⟩ (.inl ⟨_, e, by nofun⟩) (fun c' d' l' q => by cases q; exact R.sl _ _ _ _ e), hi, h⟩
      have : vs.size = l.length := by rw [← q]; simp
      have r := ((hv.append (OVs.nones (k + 1 - l.length))).set (OV.some hw) k).mono hi
      simpa [this] using r
    | _ => exact False.elim h
  | _ => exact False.elim h
end
end Mine

end

section
open PySem PySem.W PyProof.Rows PySem.Calls
set_option Elab.async false
set_option maxRecDepth 100000
set_option backward.match.sparseCases false
namespace Mine

/-- what a global name of the text is -/
inductive GI where
  | val (v : AV)
  | prim (p : Prim)
  | fn (a : Addr)
  | cls (a : Addr)
noncomputable def GI.av : GI → AV
  | .val v => v
  | .prim p => .val p.value
  | .fn a => .ref a
  | .cls a => .ref a

structure GT where
  G : String → Option GI
  nm : Str → Option String

noncomputable def baseOk : Expr → Bool
  | .Call (.Name _ _) [] [] _ => false
  | _ => true
noncomputable def notSet : Expr → Bool
  | .Set .. => false
  | _ => true
noncomputable def notSlice : Expr → Bool
  | .Slice .. => false
  | _ => true
noncomputable def notStar : Expr → Bool
  | .Starred .. => false
  | _ => true

noncomputable def GT.seen (Γ : GT) (sc : Sc) (x : Str) : Option String :=
  if x == ("__debug__" : Str) then none else match Γ.nm x with
  | some y => if sc.loc.contains y || sc.own.contains y || sc.ro.contains y then some y else none
  | none => none
noncomputable def GT.kept (Γ : GT) (sc : Sc) (x : Str) : Option String :=
  match Γ.nm x with
  | some y => if sc.loc.contains y || sc.own.contains y then some y else none
  | none => none
noncomputable def GT.glob (Γ : GT) (sc : Sc) (x : Str) : Option (String × GI) :=
  if x == ("__debug__" : Str) then none else match Γ.nm x with
  | some y => if sc.gl.contains y && !(sc.loc.contains y || sc.own.contains y || sc.ro.contains y) then (Γ.G y).map fun g => (y, g) else none
  | none => none

/-- the scope of a comprehension -/
noncomputable def compSc (Γ : GT) (names : List (Str × NameKind)) : Option Sc :=
  let of (k : NameKind) : Option (List String) := ((names.filter fun p => p.2 == k && p.1 != (".0" : Str)).map (·.1)).mapM Γ.nm
  if decide (names.map (·.1)).Nodup && names.all (fun p => p.1 != (".0" : Str) || p.2 == .local) then match of .local, of .cell, of .free, of .globalImplicit with
  | some a, some b, some c, some d => some ⟨a, b, c, d⟩
  | _, _, _, _ => none else none

/-- a test ahead of a result -/
noncomputable def orNone {α : Type} (b : Bool) (o : Option α) : Option α := if b then o else none
theorem orNone_eq {α : Type} {b : Bool} {o : Option α} {m : α} (h : orNone b o = some m) : b = true ∧ o = some m := by
  cases b
  · cases h
  · exact ⟨rfl, h⟩
theorem bindS {α β : Type} {o : Option α} {f : α → Option β} {m : β} (h : o.bind f = some m) : ∃ a, o = some a ∧ f a = some m := by
  cases o
  · cases h
  · exact ⟨_, rfl, h⟩
noncomputable def one {α : Type} (l : List α) : Option α := match l with
  | [a] => some a
  | _ => none
theorem one_eq {α : Type} {l : List α} {a : α} (h : one l = some a) : l = [a] := by
  rcases l with _ | ⟨b, _ | ⟨c, l⟩⟩
  · cases h
  · cases h; rfl
  · cases h
theorem sub_eq {α : Type} {P : α → Prop} {o : Option {x : α // P x}} {x : α} (h : o.map Subtype.val = some x) : P x := by
  cases o with
  | none => cases h
  | some y => cases h; exact y.2
noncomputable def nameOf' : (e : Expr) → Option {x : Str × Pos // e = .Name x.1 x.2}
  | .Name x p => some ⟨(x, p), rfl⟩
  | _ => none
noncomputable def nameOf (e : Expr) : Option (Str × Pos) := (nameOf' e).map Subtype.val
theorem nameOf_eq {e : Expr} {x : Str × Pos} (h : nameOf e = some x) : e = .Name x.1 x.2 := sub_eq (o := nameOf' e) h
noncomputable def keptE (Γ : GT) (sc : Sc) (e : Expr) : Option String := (nameOf e).bind fun x => Γ.kept sc x.1
noncomputable def cT (Γ : GT) (sc : Sc) : Expr → Option MT
  | .Name x _ => (Γ.kept sc x).map .name
  | .Tuple es _ _ => (es.mapM (keptE Γ sc)).bind fun xs => if decide xs.Nodup then some (.tup xs) else none
  | _ => none

noncomputable def starOf' : (e : Expr) → Option {x : Expr × Pos // e = .Starred x.1 x.2}
  | .Starred a p => some ⟨(a, p), rfl⟩
  | _ => none
noncomputable def starOf (e : Expr) : Option (Expr × Pos) := (starOf' e).map Subtype.val
theorem starOf_eq {e : Expr} {x : Expr × Pos} (h : starOf e = some x) : e = .Starred x.1 x.2 := sub_eq (o := starOf' e) h
/-- a cut by steps of one -/
noncomputable def cutOf' : (e : Expr) → Option {x : Option Expr × Option Expr × Pos // e = .Slice x.1 x.2.1 none x.2.2}
  | .Slice lo hi none p => some ⟨(lo, hi, p), rfl⟩
  | _ => none
noncomputable def cutOf (e : Expr) : Option (Option Expr × Option Expr × Pos) := (cutOf' e).map Subtype.val
theorem cutOf_eq {e : Expr} {x : Option Expr × Option Expr × Pos} (h : cutOf e = some x) : e = .Slice x.1 x.2.1 none x.2.2 := sub_eq (o := cutOf' e) h
/-- the first clause of a comprehension -/
noncomputable def genOf (gs : List Comprehension) : Option (Comprehension × List Comprehension) := match gs with
  | [] => none
  | g :: r => if g.is_async == 0 then some (g, r) else none
theorem genOf_eq {gs : List Comprehension} {x : Comprehension × List Comprehension} (h : genOf gs = some x) : gs = ⟨x.1.target, x.1.iter, x.1.ifs, 0⟩ :: x.2 := by
  rcases gs with _ | ⟨⟨t, it, ifs, a⟩, r⟩
  · cases h
  · by_cases h0 : a = 0
    · subst h0; cases h; rfl
    · rw [genOf, if_neg (by simpa using h0)] at h; cases h
noncomputable def cK (c : Const) : Option ME := match c with
  | .int i => some (.const (.int i))
  | .none => some (.const .none)
  | .bool b => some (.const (.bool b))
  | _ => none
noncomputable def cName (Γ : GT) (sc : Sc) (x : Str) : Option ME := match Γ.seen sc x with
  | some y => some (.var y)
  | none => (Γ.glob sc x).bind fun g => some (.gl g.1 g.2.av)
noncomputable def cNeg (op : UnaryOp) (a : ME) : Option ME := match op with
  | .USub => some (.neg a)
  | _ => none
noncomputable def cOf (g : GI) (as : List ME) : Option ME := match g with
  | .prim p => some (.pcall p as)
  | .fn a => some (.fcall a as)
  | .cls a => some (.ncall a as)
  | .val _ => none

mutual
noncomputable def cE (Γ : GT) : Nat → Sc → Expr → Option ME
  | 0, _, _ => none
  | n + 1, sc, e => match e with
    | .Constant c _ _ => cK c
    | .Name x _ => cName Γ sc x
    | .BinOp l op r _ => (cE Γ n sc l).bind fun a => (cE Γ n sc r).bind fun b => some (.bin op a b)
    | .UnaryOp op x _ => (cE Γ n sc x).bind (cNeg op)
    | .Compare l ops rs _ => (one ops).bind fun op => (one rs).bind fun r => orNone (!behindInMarks op r) ((cE Γ n sc l).bind fun a => (cE Γ n sc r).bind fun b => some (.cmp op a b))
    | .IfExp c a b _ => (cC Γ n sc c).bind fun c => (cE Γ n sc a).bind fun a => (cE Γ n sc b).bind fun b => some (.ife c a b)
    | .NamedExpr t v _ => (nameOf t).bind fun x => (Γ.kept sc x.1).bind fun y => (cE Γ n sc v).bind fun v => some (.walrus y v)
    | .Call f args kws pos => orNone kws.isEmpty (match f with
      | .Attribute o name apos => match (one args).bind starOf with
        | some a => orNone (apos.endLine == pos.line && baseOk o) ((Γ.nm name).bind fun m => (cE Γ n sc o).bind fun o => (cE Γ n sc a.1).bind fun a => some (.methS o m a))
        | none => orNone (apos.endLine == pos.line && baseOk o && decide (args.length < 20)) ((Γ.nm name).bind fun m => (cE Γ n sc o).bind fun o => (cEs Γ n sc args).bind fun as => some (.meth o m as))
      | .Name f _ => orNone (decide (args.length < 20)) ((Γ.glob sc f).bind fun g => (cEs Γ n sc args).bind fun as => cOf g.2 as)
      | _ => none)
    | .Attribute o name _ => orNone (baseOk o) ((Γ.nm name).bind fun m => (cE Γ n sc o).bind fun o => some (.attr o m))
    | .Subscript o i _ => match cutOf i with
      | some c => (cE Γ n sc o).bind fun o => (cO Γ n sc c.1).bind fun l => (cO Γ n sc c.2.1).bind fun h => some (.slice o l h)
      | none => orNone (notSlice i) ((cE Γ n sc o).bind fun o => (cE Γ n sc i).bind fun i => some (.sub o i))
    | .List es _ => orNone (decide (es.length < 1000)) ((cEs Γ n sc es).bind fun es => some (.list es))
    | .Tuple es _ _ => orNone (decide (es.length < 1000)) ((cEs Γ n sc es).bind fun es => some (.tup es))
    | .Dict ks vs _ => orNone (ks.isEmpty && vs.isEmpty) (some .dict0)
    | .ListComp elt gens scope _ => (genOf gens).bind fun g => (compSc Γ scope.names).bind fun sc' => orNone (sc'.ro.all (fun x => sc.own.contains x || sc.ro.contains x) && decide (scope.kind = .function) && notSet g.1.iter)
        ((cE Γ n sc g.1.iter).bind fun it' => (cT Γ sc' g.1.target).bind fun t' => (cCs Γ n sc' g.1.ifs).bind fun ifs' => (cGs Γ n sc' g.2).bind fun gs' => (cE Γ n sc' elt).bind fun elt' => some (.comp (sc'.loc ++ sc'.own) elt' t' it' ifs' gs'))
    | _ => none
noncomputable def cEs (Γ : GT) : Nat → Sc → List Expr → Option (List ME)
  | 0, _, _ => none
  | n + 1, sc, es => match es with
    | [] => some []
    | e :: r => (cE Γ n sc e).bind fun a => (cEs Γ n sc r).bind fun b => some (a :: b)
noncomputable def cO (Γ : GT) : Nat → Sc → Option Expr → Option (Option ME)
  | 0, _, _ => none
  | n + 1, sc, o => match o with
    | none => some none
    | some e => (cE Γ n sc e).bind fun a => some (some a)
noncomputable def cC (Γ : GT) : Nat → Sc → Expr → Option MC
  | 0, _, _ => none
  | n + 1, sc, e => match e with
    | .UnaryOp op x _ => match op with
      | .Not => (cC Γ n sc x).bind fun a => some (.not a)
      | _ => none
    | .BoolOp op vs _ => match op with
      | .And => (cCs Γ n sc vs).bind fun a => some (.and a)
      | .Or => (cCs Γ n sc vs).bind fun a => some (.or a)
    | .Compare l ops rs _ => (one ops).bind fun op => (one rs).bind fun r => orNone (!behindInMarks op r) ((cE Γ n sc l).bind fun a => (cE Γ n sc r).bind fun b => some (.cmp op a b))
    | .IfExp .. => none
    | e => (cE Γ n sc e).bind fun a => some (.plain a)
noncomputable def cCs (Γ : GT) : Nat → Sc → List Expr → Option (List MC)
  | 0, _, _ => none
  | n + 1, sc, es => match es with
    | [] => some []
    | e :: r => (cC Γ n sc e).bind fun a => (cCs Γ n sc r).bind fun b => some (a :: b)
noncomputable def cGs (Γ : GT) : Nat → Sc → List Comprehension → Option (List MG)
  | 0, _, _ => none
  | n + 1, sc, gs => match gs with
    | [] => some []
    | g :: r => orNone (g.is_async == 0 && notSet g.iter) ((cT Γ sc g.target).bind fun t' => (cE Γ n sc g.iter).bind fun it' => (cCs Γ n sc g.ifs).bind fun ifs' => (cGs Γ n sc r).bind fun r' => some (.mk t' it' ifs' :: r'))
end

theorem mapM_cons_some {α β : Type} {f : α → Option β} {a : α} {l : List α} {ys : List β} (h : (a :: l).mapM f = some ys) : ∃ y zs, f a = some y ∧ l.mapM f = some zs ∧ ys = y :: zs := by
  rw [List.mapM_cons] at h
  obtain ⟨y, h₁, h⟩ := bindS (show (f a).bind _ = _ from h)
  obtain ⟨zs, h₂, h⟩ := bindS (show (l.mapM f).bind _ = _ from h)
  cases h
  exact ⟨y, zs, h₁, h₂, rfl⟩
/-- a name among targets -/
theorem kept_name {Γ : GT} {sc : Sc} {e : Expr} {y : String} (h : keptE Γ sc e = some y) : ∃ x p, e = .Name x p ∧ Γ.kept sc x = some y := by
  obtain ⟨x, h₁, h₂⟩ := bindS h
  exact ⟨x.1, x.2, nameOf_eq h₁, h₂⟩
theorem cT_tup {Γ : GT} {sc : Sc} {es : List Expr} {k : Nat} {p : Pos} {mt : MT} (h : cT Γ sc (.Tuple es k p) = some mt) : ∃ xs, mt = .tup xs ∧ es.mapM (keptE Γ sc) = some xs ∧ xs.Nodup := by
  obtain ⟨ys, hy, hx⟩ := bindS (show ((es.mapM (keptE Γ sc)).bind fun xs => if decide xs.Nodup then some (MT.tup xs) else none) = some mt from h)
  by_cases c : decide ys.Nodup = true
  · rw [if_pos c] at hx; cases hx; exact ⟨_, rfl, hy, of_decide_eq_true c⟩
  · rw [if_neg c] at hx; cases hx

/-- the order of the stores is known -/
noncomputable def storeOk (t v : Expr) : Bool := match t, v with
  | .Tuple .., .Tuple vs _ _ => !vs.all (constantsAlone 8)
  | .List .., _ => false
  | _, _ => true

noncomputable def isCall : Expr → Bool
  | .Call .. => true
  | _ => false

noncomputable def tupT (t : MT) : Option MTgt := match t with
  | .tup xs => some (.tup xs)
  | _ => none
noncomputable def cTgt (Γ : GT) (n : Nat) (sc : Sc) : Expr → Option MTgt
  | .Name x _ => (Γ.kept sc x).map .name
  | .Tuple es k p => (cT Γ sc (.Tuple es k p)).bind tupT
  | .Attribute o name _ => (cE Γ n sc o).bind fun o => (Γ.nm name).bind fun m => some (.attr o m)
  | .Subscript o i _ => orNone (notSlice i) ((cE Γ n sc o).bind fun o => (cE Γ n sc i).bind fun i => some (.sub o i))
  | _ => none

/-- a statement, or none that may be reached -/
noncomputable def optS {α : Type} (o : Option α) (f : α → MS) : MS := match o with
  | some a => f a
  | none => .never
noncomputable def ifS' (b : Bool) (m : MS) : MS := if b then m else .never
noncomputable def two {α : Type} (l : List α) : Option (α × α) := match l with
  | [a, b] => some (a, b)
  | _ => none
theorem two_eq {α : Type} {l : List α} {a : α × α} (h : two l = some a) : l = [a.1, a.2] := by
  rcases l with _ | ⟨b, _ | ⟨c, _ | ⟨d, l⟩⟩⟩
  · cases h
  · cases h
  · cases h; rfl
  · cases h
noncomputable def asgOf' : (s : Stmt) → Option {x : List Expr × Expr × Pos // s = .Assign x.1 x.2.1 x.2.2}
  | .Assign ts v p => some ⟨(ts, v, p), rfl⟩
  | _ => none
noncomputable def asgOf (s : Stmt) : Option (List Expr × Expr × Pos) := (asgOf' s).map Subtype.val
theorem asgOf_eq {s : Stmt} {x : List Expr × Expr × Pos} (h : asgOf s = some x) : s = .Assign x.1 x.2.1 x.2.2 := sub_eq (o := asgOf' s) h
noncomputable def exprOf' : (s : Stmt) → Option {x : Expr × Pos // s = .Expr x.1 x.2}
  | .Expr v p => some ⟨(v, p), rfl⟩
  | _ => none
noncomputable def exprOf (s : Stmt) : Option (Expr × Pos) := (exprOf' s).map Subtype.val
theorem exprOf_eq {s : Stmt} {x : Expr × Pos} (h : exprOf s = some x) : s = .Expr x.1 x.2 := sub_eq (o := exprOf' s) h
noncomputable def brkOf' : (s : Stmt) → Option {x : Pos // s = .Break x}
  | .Break p => some ⟨p, rfl⟩
  | _ => none
noncomputable def brkOf (s : Stmt) : Option (Pos) := (brkOf' s).map Subtype.val
theorem brkOf_eq {s : Stmt} {x : Pos} (h : brkOf s = some x) : s = .Break x := sub_eq (o := brkOf' s) h
noncomputable def delOf' : (s : Stmt) → Option {x : List Expr × Pos // s = .Delete x.1 x.2}
  | .Delete ts p => some ⟨(ts, p), rfl⟩
  | _ => none
noncomputable def delOf (s : Stmt) : Option (List Expr × Pos) := (delOf' s).map Subtype.val
theorem delOf_eq {s : Stmt} {x : List Expr × Pos} (h : delOf s = some x) : s = .Delete x.1 x.2 := sub_eq (o := delOf' s) h
/-- a call without arguments -/
noncomputable def call0' : (e : Expr) → Option {x : Expr × Pos // e = .Call x.1 [] [] x.2}
  | .Call f [] [] p => some ⟨(f, p), rfl⟩
  | _ => none
noncomputable def call0 (e : Expr) : Option (Expr × Pos) := (call0' e).map Subtype.val
theorem call0_eq {e : Expr} {x : Expr × Pos} (h : call0 e = some x) : e = .Call x.1 [] [] x.2 := sub_eq (o := call0' e) h
noncomputable def subOf' : (e : Expr) → Option {x : Expr × Expr × Pos // e = .Subscript x.1 x.2.1 x.2.2}
  | .Subscript o i p => some ⟨(o, i, p), rfl⟩
  | _ => none
noncomputable def subOf (e : Expr) : Option (Expr × Expr × Pos) := (subOf' e).map Subtype.val
theorem subOf_eq {e : Expr} {x : Expr × Expr × Pos} (h : subOf e = some x) : e = .Subscript x.1 x.2.1 x.2.2 := sub_eq (o := subOf' e) h
noncomputable def attrOf' : (e : Expr) → Option {x : Expr × Str × Pos // e = .Attribute x.1 x.2.1 x.2.2}
  | .Attribute o m p => some ⟨(o, m, p), rfl⟩
  | _ => none
noncomputable def attrOf (e : Expr) : Option (Expr × Str × Pos) := (attrOf' e).map Subtype.val
theorem attrOf_eq {e : Expr} {x : Expr × Str × Pos} (h : attrOf e = some x) : e = .Attribute x.1 x.2.1 x.2.2 := sub_eq (o := attrOf' e) h
noncomputable def intOf' : (e : Expr) → Option {x : Int × Nat × Pos // e = .Constant (.int x.1) x.2.1 x.2.2}
  | .Constant (.int i) k p => some ⟨(i, k, p), rfl⟩
  | _ => none
noncomputable def intOf (e : Expr) : Option (Int × Nat × Pos) := (intOf' e).map Subtype.val
theorem intOf_eq {e : Expr} {x : Int × Nat × Pos} (h : intOf e = some x) : e = .Constant (.int x.1) x.2.1 x.2.2 := sub_eq (o := intOf' e) h
noncomputable def negOf' : (e : Expr) → Option {x : Expr × Pos // e = .UnaryOp .USub x.1 x.2}
  | .UnaryOp .USub x p => some ⟨(x, p), rfl⟩
  | _ => none
noncomputable def negOf (e : Expr) : Option (Expr × Pos) := (negOf' e).map Subtype.val
theorem negOf_eq {e : Expr} {x : Expr × Pos} (h : negOf e = some x) : e = .UnaryOp .USub x.1 x.2 := sub_eq (o := negOf' e) h
/-- a handler of a named class, without «as» -/
noncomputable def handOf (h : ExceptHandler) : Option (Str × Pos × List Stmt × Pos) := match h with
  | .ExceptHandler t nm b p => if nm.isNone then t.bind fun t => (nameOf t).bind fun x => some (x.1, x.2, b, p) else none
theorem handOf_eq {h : ExceptHandler} {x : Str × Pos × List Stmt × Pos} (e : handOf h = some x) : h = .ExceptHandler (some (.Name x.1 x.2.1)) none x.2.2.1 x.2.2.2 := by
  cases h with
  | ExceptHandler t nm b p =>
    cases nm with
    | some _ => cases e
    | none =>
      obtain ⟨t, rfl, e⟩ := bindS (show (t.bind fun t => (nameOf t).bind fun x => some (x.1, x.2, b, p)) = some x from e)
      obtain ⟨y, hy, e⟩ := bindS e
      cases e
      rw [nameOf_eq hy]
noncomputable def cAsg (Γ : GT) (n : Nat) (sc : Sc) (ts : List Expr) (v : Expr) : MS := match one ts with
  | some t => ifS' (storeOk t v) (optS (cTgt Γ n sc t) fun t => optS (cE Γ n sc v) fun v => .assign t v)
  | none => optS (two ts) fun t => ifS' (notStar t.1 && notStar t.2) (optS (cTgt Γ n sc t.1) fun a => optS (cTgt Γ n sc t.2) fun b => optS (cE Γ n sc v) fun v => .assign2 a b v)
noncomputable def cAug (Γ : GT) (n : Nat) (sc : Sc) (t : Expr) (op : Operator) (v : Expr) : MS := match subOf t with
  | some x => ifS' (notSlice x.2.1 && (op == .Add || op == .Sub)) (optS (cE Γ n sc x.1) fun o => optS (cE Γ n sc x.2.1) fun i => optS (cE Γ n sc v) fun v => .augSub o i op v)
  | none => optS (attrOf t) fun x => ifS' (op == .Add || op == .Sub) (optS (cE Γ n sc x.1) fun o => optS (Γ.nm x.2.1) fun m => optS (cE Γ n sc v) fun v => .augAttr o m op v)
/-- «try: x = its[-1](); break» and «except StopIteration: del d[st.pop()]; its.pop()» -/
noncomputable def cNext (Γ : GT) (sc : Sc) (body : List Stmt) (h : Str × Pos × List Stmt × Pos) : MS :=
  optS (two body) fun b => optS (asgOf b.1) fun a => optS ((one a.1).bind nameOf) fun x => optS (call0 a.2.1) fun c => optS (subOf c.1) fun u => optS (nameOf u.1) fun its => optS ((negOf u.2.1).bind fun z => (intOf z.1).bind fun i => orNone (i.1 == 1) (some (z.2, i.2.1, i.2.2))) fun _ => optS (brkOf b.2) fun _ =>
  optS (two h.2.2.1) fun k => optS (delOf k.1) fun dl => optS ((one dl.1).bind subOf) fun w => optS (nameOf w.1) fun d => optS (call0 w.2.1) fun c1 => optS (attrOf c1.1) fun a1 => optS (nameOf a1.1) fun st => optS (exprOf k.2) fun ex => optS (call0 ex.1) fun c2 => optS (attrOf c2.1) fun a2 => optS (nameOf a2.1) fun its2 =>
  optS (Γ.kept sc x.1) fun x' => optS (Γ.seen sc its.1) fun i' => optS (Γ.seen sc d.1) fun d' => optS (Γ.seen sc st.1) fun st' =>
  ifS' (its2.1 == its.1 && a1.2.1 == Str.ofString "pop" && a2.2.1 == Str.ofString "pop" && h.1 == Str.ofString "StopIteration" && sc.gl.contains "StopIteration" && a1.2.2.endLine == c1.2.line && a2.2.2.endLine == c2.2.line) (.tryNext x' i' d' st')
noncomputable def cTry (Γ : GT) (cyc : String) (n : Nat) (sc : Sc) (body : List Stmt) (hs : List ExceptHandler) (a b : List Stmt) : MS :=
  ifS' (a.isEmpty && b.isEmpty) (optS ((one hs).bind handOf) fun h => if h.1 == Str.ofString "StopIteration" then cNext Γ sc body h else .never)
noncomputable def cRaise (Γ : GT) (cyc : String) (n : Nat) (sc : Sc) (e c : Option Expr) : MS := .never

mutual
noncomputable def cS (Γ : GT) (cyc : String) : Nat → Sc → Stmt → MS
  | 0, _, _ => .never
  | n + 1, sc, st => match st with
    | .Assign ts v _ => cAsg Γ n sc ts v
    | .AugAssign t op v _ => cAug Γ n sc t op v
    | .Expr v _ => ifS' (isCall v) (optS (cE Γ n sc v) .expr)
    | .Return e _ => optS e fun e => optS (cE Γ n sc e) .ret
    | .If c a b _ => optS (cC Γ n sc c) fun c => .ifS c (cSs Γ cyc n sc a) (cSs Γ cyc n sc b)
    | .While c a b _ => optS (cC Γ n sc c) fun c => .whileS c (cSs Γ cyc n sc a) (cSs Γ cyc n sc b)
    | .For t it body els _ => ifS' (els.isEmpty && notSet it) (optS (cT Γ sc t) fun t => optS (cE Γ n sc it) fun it' => .forS t it' (cSs Γ cyc n sc body))
    | .Break _ => .brk
    | .Continue _ => .cont
    | .Pass _ => .pass
    | .Try body hs a b _ => cTry Γ cyc n sc body hs a b
    | .Raise e c _ => cRaise Γ cyc n sc e c
    | _ => .never
noncomputable def cSs (Γ : GT) (cyc : String) : Nat → Sc → List Stmt → List MS
  | 0, _, _ => [.never]
  | n + 1, sc, sts => match sts with
    | [] => []
    | s :: r => cS Γ cyc n sc s :: cSs Γ cyc n sc r
end
end Mine

end

section
open PySem PySem.W PyProof.Rows PySem.Calls
set_option Elab.async false
set_option backward.match.sparseCases false
set_option maxRecDepth 100000
namespace Mine

/-- reading a global name -/
def GlobOk (C : Cx) (Γ : GT) : Prop := ∀ x g, Γ.G x = some g → ∃ v, (∀ h, VR h g.av v) ∧ ∀ (M : Model) (A : Around) (E : Value → Shared → Prop) (Q : Value → Shared → Prop) (env : Env) (s : Shared),
  env.scope.kind = .function → env.globals = mainGlobals → env.builtins = builtinsNs → env.kindOf (Str.ofString x) = some .globalImplicit → (∀ a o, C.s₁.heap.get? a = some o → s.heap.get? a = some o) → Q v s →
  wpAny M A (loadName env (Str.ofString x)) Q E s

/-- the frames that are open: each one is the present one or protected -/
def FS (C : Cx) (A : Around) (Pr : Prt) (L : Addr) : Prop := ∃ fs, A.frames = some fs ∧ ∀ e ∈ fs, e.scope.kind ≠ .module ∧ ∃ F, e.frame = some F ∧ C.s₁.heap.get? F = none ∧ (F = L ∨ ∃ o, Pr F = some o ∧ o.cls = .type "frame" ∧ ∃ es ep, o.data = .dict es ep)

/-- the text's own exception, raised: nobody else's object; raw: as it was made; else: it has left a frame -/
structure ExcAt (raw : Bool) (C : Cx) (cyc : Addr) (sc : Sc) (Pr : Prt) (env : Env) (σ : AS) (h : Heap) (x : Addr) : Prop where
  at_ : ∃ ob vs a0, h.get? x = some ob ∧ ob.cls = .ref cyc ∧ ob.data = .fields vs ∧ vs[0]? = some a0 ∧
    ((raw = true ∧ vs[1]? = some .none) ∨ (raw = false ∧ ∃ tb ot tvs, vs[1]? = some (.ref tb) ∧ h.get? tb = some ot ∧ ot.data = .fields tvs ∧ tvs[3]? = some .none ∧ ¬ Rel C sc Pr env σ tb ∧ tb ≠ x ∧ ot.cls = .type "traceback"))
  nrel : ¬ Rel C sc Pr env σ x

def PX (raw : Bool) (C : Cx) (cyc : Addr) (sc : Sc) (Pr : Prt) (env : Env) (h : Heap) (X : AS → Prop) : Value → Shared → Prop :=
  fun e s' => ∃ x σ', e = .ref x ∧ RS C sc Pr env σ' s' ∧ Imm h s'.heap ∧ ExcAt raw C cyc sc Pr env σ' s'.heap x ∧ X σ'

/-- the room that a call of a def needs -/
structure OkC (d : Nat) (A : Around) : Prop where
  handled : A.handled = none
  depth : A.depth + 10 * d + 5 < 800
  units : A.units + 100 * d + 50 < 9000
  frames : ∃ env l, A.frames = some (env :: l) ∧ env.scope.isGenerator = false ∧ env.scope.isCoroutine = false ∧ env.builtins = builtinsNs ∧ env.globals = mainGlobals
theorem OkA.call {d : Nat} {A : Around} (x : OkA (d + 1) A) : OkC d A := ⟨x.handled, by have := x.depth; omega, by have := x.units; omega, x.frames⟩

/-- how a call of a def ends -/
def PR (C : Cx) (cyc : Addr) (sc : Sc) (Pr : Prt) (env : Env) (h : Heap) (Q : VK) (X : AS → Prop) : Result → Shared → Prop := fun r s' => match r with
  | .ok (.ret v) => PV C sc Pr env h Q v s'
  | .ok _ => False
  | .error e => PX false C cyc sc Pr env h X e s'

/-- calls of the text's own defs are as ct says -/
def CallSnd (C : Cx) (cyc : Addr) (d : Nat) (ct : CT) : Prop := ∀ (f : Addr) (args : List AV) (vals : List Value) (Q : VK) (X : AS → Prop) (sc : Sc) (Pr : Prt) (env : Env) (σ : AS) (s : Shared) (A : Around),
  EnvOk sc env → OkC d A → FS C A Pr env.locals → RS C sc Pr env σ s → VRs s.heap args vals → ct f args Q X σ →
  (∃ o fd, C.s₁.heap.get? f = some o ∧ o.data = .func fd) ∧ codeAny (model C.prog C.w) A (.call (.ref f) ⟨vals, []⟩) (PR C cyc sc Pr env s.heap Q X) s

structure Base (C : Cx) (cyc : Addr) (K : Frag) (T : Tb) (Γ : GT) (d : Nat) (ct : CT) : Prop where
  ck : CxOk C
  kin : K.In C.s₁.heap
  tb : TbOk K T
  gl : GlobOk C Γ
  nm : ∀ x y, Γ.nm x = some y → Str.ofString y = x ∧ (x == ("__classdict__" : Str)) = false
  ct : CallSnd C cyc d ct

section
variable {C : Cx} {cyc : Addr} {K : Frag} {T : Tb} {Γ : GT} {d : Nat} {ct : CT}

def SndE (C : Cx) (T : Tb) (d : Nat) (ct : CT) (sc : Sc) (e : Expr) (m : ME) : Prop := ∀ (Pr : Prt) (env : Env) (σ : AS) (s : Shared) (A : Around) (E : Value → Shared → Prop) (Q : VK),
  EnvOk sc env → OkA (d + 1) A → FS C A Pr env.locals → RS C sc Pr env σ s → evalW T ct m Q σ → wpAny (model C.prog C.w) A (eval e env) (PV C sc Pr env s.heap Q) E s
def SndEs (C : Cx) (T : Tb) (d : Nat) (ct : CT) (sc : Sc) (es : List Expr) (ms : List ME) : Prop := (∀ e ∈ es, notStar e = true) ∧ ∀ (Pr : Prt) (env : Env) (σ : AS) (s : Shared) (A : Around) (E : Value → Shared → Prop) (Q : LK) (p : Pos),
  EnvOk sc env → OkA (d + 1) A → FS C A Pr env.locals → RS C sc Pr env σ s → evalsW T ct ms Q σ →
  wpAny (model C.prog C.w) A (spliced (backTo p (starEach es env))) (fun vs s' => ∃ avs σ', vs.length = es.length ∧ VRs s'.heap avs vs ∧ RS C sc Pr env σ' s' ∧ Imm s.heap s'.heap ∧ Q avs σ') E s
def SndO (C : Cx) (T : Tb) (d : Nat) (ct : CT) (sc : Sc) (e : Option Expr) (m : Option ME) : Prop := ∀ (Pr : Prt) (env : Env) (σ : AS) (s : Shared) (A : Around) (E : Value → Shared → Prop) (Q : Option AV → AS → Prop),
  EnvOk sc env → OkA (d + 1) A → FS C A Pr env.locals → RS C sc Pr env σ s → evalOW T ct m Q σ →
  wpAny (model C.prog C.w) A (evalPart e env) (fun v s' => ∃ av σ', ((av = none ∧ v = .none) ∨ ∃ x, av = some x ∧ VR s'.heap x v) ∧ RS C sc Pr env σ' s' ∧ Imm s.heap s'.heap ∧ Q av σ') E s
def SndC (C : Cx) (T : Tb) (d : Nat) (ct : CT) (sc : Sc) (e : Expr) (m : MC) : Prop := ∀ (Pr : Prt) (env : Env) (σ : AS) (s : Shared) (A : Around) (E : Value → Shared → Prop) (Q : Bool → AS → Prop),
  EnvOk sc env → OkA (d + 1) A → FS C A Pr env.locals → RS C sc Pr env σ s → condW T ct m Q σ → wpAny (model C.prog C.w) A (isTrue e env (eval e env)) (PB C sc Pr env s.heap Q) E s
def SndCs (C : Cx) (T : Tb) (d : Nat) (ct : CT) (sc : Sc) (es : List Expr) (ms : List MC) : Prop := ∀ (Pr : Prt) (env : Env) (σ : AS) (s : Shared) (A : Around) (E : Value → Shared → Prop) (Q : Bool → AS → Prop),
  EnvOk sc env → OkA (d + 1) A → FS C A Pr env.locals → RS C sc Pr env σ s →
  (condsW T ct ms Q σ → wpAny (model C.prog C.w) A (allTrue .And es env) (PB C sc Pr env s.heap Q) E s) ∧
  (condsOW T ct ms Q σ → wpAny (model C.prog C.w) A (allTrue .Or es env) (PB C sc Pr env s.heap Q) E s)

section
variable {sc : Sc} {Pr : Prt} {env : Env} {σ : AS} {s : Shared} {A : Around} {E : Value → Shared → Prop} {Q : VK}

theorem PV.from {h h' : Heap} (i : Imm h h') {v : Value} {s : Shared} (x : PV C sc Pr env h' Q v s) : PV C sc Pr env h Q v s :=
  let ⟨a, b, c, d, e, f⟩ := x; ⟨a, b, c, d, i.trans e, f⟩
theorem PB.from {h h' : Heap} {Q : Bool → AS → Prop} (i : Imm h h') {v : Bool} {s : Shared} (x : PB C sc Pr env h' Q v s) : PB C sc Pr env h Q v s :=
  let ⟨b, d, e, f⟩ := x; ⟨b, d, i.trans e, f⟩

/-- one value, and then on -/
theorem thenV {t : Sem Value} {k : Value → Shared → Prop} {Q₁ : VK} (h₁ : wpAny (model C.prog C.w) A t (PV C sc Pr env s.heap Q₁) E s)
    (h₂ : ∀ v s₁ av σ₁, VR s₁.heap av v → RS C sc Pr env σ₁ s₁ → Imm s.heap s₁.heap → Q₁ av σ₁ → k v s₁) : wpAny (model C.prog C.w) A t k E s :=
  wpAny_mono h₁ (fun v s₁ ⟨av, σ₁, a, b, c, e⟩ => h₂ v s₁ av σ₁ a b c e) fun _ _ e => e

theorem RS.load (R : RS C sc Pr env σ s) (O : EnvOk sc env) {x : String} (hx : x ∈ sc.loc ∨ x ∈ sc.own ∨ x ∈ sc.ro) {v : AV} (hv : σ.loc x = some v) (h : Q v σ) (hd : (Str.ofString x == ("__classdict__" : Str)) = false) :
    wpAny (model C.prog C.w) A (loadName env (Str.ofString x)) (PV C sc Pr env s.heap Q) E s := by
  rcases hx with hx | hx | hx
  · obtain ⟨m, hm, hr⟩ := R.fr.loc
    obtain ⟨v', e1, e2⟩ := hr x hx v hv
    exact wpAny_loadName_local O.kind (O.loc x hx) hm e1 (PV.pure' R e2 h)
  · obtain ⟨c, v', a1, a2, a3, a4⟩ := R.fr.own x hx
    obtain ⟨y, rfl, b2⟩ := a4 v hv
    exact wpAny_loadName_cell O.kind (O.own x hx) a1 a2 (PV.pure' R b2 h)
  · obtain ⟨c, o, v', a1, a2, a3, a4⟩ := R.fr.ro x hx
    obtain ⟨o', b1, b2⟩ := R.prot _ _ a2
    obtain ⟨y, rfl, a5⟩ := a4 v hv
    have hc : s.heap.IsCell c (some y) := ⟨o', b1, by rw [b2.2.1]; exact a3⟩
    rcases O.ro x hx with hk | hk
    · exact wpAny_loadName_cell O.kind hk a1 hc (PV.pure' R a5 h)
    · exact wpAny_loadName_free O.kind hk a1 hc (PV.pure' R a5 h) hd

theorem RS.storeN (R : RS C sc Pr env σ s) (O : EnvOk sc env) {x : String} (hx : x ∈ sc.loc ∨ x ∈ sc.own) {v : AV} {v' : Value} (hv : VR s.heap v v') {P : AS → Prop} (h : P (σ.set x v)) :
    wpAny (model C.prog C.w) A (storeName env (Str.ofString x) v') (PU C sc Pr env s.heap P) E s := by
  rcases hx with hx | hx
  · obtain ⟨m, hm, hr⟩ := R.fr.loc
    refine wpAny_storeName_local (O.loc x hx) hm (fun h' hn hs => ⟨_, R.store O hx hv hm hr hn hs, ?_, h⟩) (by rw [O.kind]; rfl)
    exact fun b o e i => hs.extBut b o (by rintro rfl; exact ns_not_imm hm e i) e
  · obtain ⟨c, u, a1, a2, a3, a4⟩ := R.fr.own x hx
    refine wpAny_storeName_cell O.kind (O.own x hx) a1 a2 fun h' hn hs => ⟨_, R.storeC O hx hv a1 hn hs, ?_, h⟩
    exact fun b o e i => hs.extBut b o (by rintro rfl; exact cell_not_imm a2 e i) e

end
end
end Mine

end

section
open PySem PySem.W PyProof.Rows PySem.Calls
set_option Elab.async false
set_option backward.match.sparseCases false
set_option maxRecDepth 100000
namespace Mine
section
variable {C : Cx} {cyc : Addr} {K : Frag} {T : Tb} {Γ : GT} {d : Nat} {ct : CT} {sc : Sc}

theorem snd_name (B : Base C cyc K T Γ d ct) {x : Str} {p : Pos} {y : String} (h : Γ.seen sc x = some y) : SndE C T d ct sc (.Name x p) (.var y) := by
  intro Pr env σ s A E Q O OA FA R hw
  unfold GT.seen at h
  split at h
  · cases h
  · rename_i hd
    split at h
    · rename_i z hz
      split at h
      · rename_i hin
        cases h
        obtain ⟨rfl, hc⟩ := B.nm _ _ hz
        obtain ⟨v, hv, hq⟩ := hw
        refine wpAny_Name (R.load O ?_ hv hq hc) (by simpa using hd)
        simpa [or_assoc] using hin
      · cases h
    · cases h

theorem glob_of (B : Base C cyc K T Γ d ct) {x : Str} {y : String} {g : GI} (h : Γ.glob sc x = some (y, g)) : Str.ofString y = x ∧ y ∈ sc.gl ∧ Γ.G y = some g ∧ (x == ("__debug__" : Str)) = false := by
  unfold GT.glob at h
  split at h
  · cases h
  · rename_i hd
    split at h
    · rename_i z hz
      split at h
      · rename_i hin
        obtain ⟨g', hg, e⟩ := Option.map_eq_some_iff.mp h
        cases e
        obtain ⟨rfl, hc⟩ := B.nm _ _ hz
        refine ⟨rfl, ?_, hg, by simpa using hd⟩
        simp only [Bool.and_eq_true] at hin
        simpa using hin.1
      · cases h
    · cases h

theorem load_glob (B : Base C cyc K T Γ d ct) {Pr : Prt} {env : Env} {σ : AS} {s : Shared} {A : Around} {E : Value → Shared → Prop} {x : Str} {p : Pos} {y : String} {g : GI} {Q : Value → Shared → Prop} (h : Γ.glob sc x = some (y, g)) (O : EnvOk sc env) (R : RS C sc Pr env σ s)
    (hq : ∀ v, (∀ h, VR h g.av v) → Q v s) : wpAny (model C.prog C.w) A (eval (.Name x p) env) Q E s := by
  obtain ⟨rfl, h1, h2, h3⟩ := glob_of B h
  obtain ⟨v, hv, hl⟩ := B.gl _ _ h2
  exact wpAny_Name (hl _ _ _ _ _ _ O.kind O.glob O.blt (O.gl _ h1) R.keep (hq v hv)) h3

theorem snd_glob (B : Base C cyc K T Γ d ct) {x : Str} {p : Pos} {y : String} {g : GI} (h : Γ.glob sc x = some (y, g)) : SndE C T d ct sc (.Name x p) (.gl y g.av) := by
  intro Pr env σ s A E Q O OA FA R hw
  exact load_glob B h O R fun v hv => PV.pure' R (hv _) hw

theorem snd_bin (B : Base C cyc K T Γ d ct) {l r : Expr} {a b : ME} {op : Operator} {p : Pos} (ha : SndE C T d ct sc l a) (hb : SndE C T d ct sc r b) : SndE C T d ct sc (.BinOp l op r p) (.bin op a b) := by
  intro Pr env σ s A E Q O OA FA R hw
  refine wpAny_BinOp (thenV (ha _ _ _ _ _ E _ O OA FA R hw) fun v s₁ av σ₁ v1 R1 i1 h1 => ?_)
  refine thenV (hb _ _ _ _ _ E _ O OA FA R1 h1) fun u s₂ au σ₂ v2 R2 i2 h2 => ?_
  exact wpAny_mono (bin_sound B.ck OA R2 (v1.mono i2) v2 h2) (fun _ _ x => x.from (i1.trans i2)) fun _ _ e => e

theorem snd_neg {x : Expr} {a : ME} {p : Pos} (ha : SndE C T d ct sc x a) : SndE C T d ct sc (.UnaryOp .USub x p) (.neg a) := by
  intro Pr env σ s A E Q O OA FA R hw
  refine wpAny_UnaryOp (thenV (ha _ _ _ _ _ E _ O OA FA R hw) fun v s₁ av σ₁ v1 R1 i1 h1 => ?_)
  obtain ⟨i, rfl, h1⟩ := h1
  obtain ⟨t, rfl⟩ := v1.int_inv
  exact neg_int ((PV.pure R1 _ (.int _ _) h1).from i1)

theorem snd_cmp (B : Base C cyc K T Γ d ct) {l r : Expr} {a b : ME} {op : CmpOp} {p : Pos} (hm : behindInMarks op r = false) (ha : SndE C T d ct sc l a) (hb : SndE C T d ct sc r b) : SndE C T d ct sc (.Compare l [op] [r] p) (.cmp op a b) := by
  intro Pr env σ s A E Q O OA FA R hw
  refine wpAny_Compare1 (thenV (ha _ _ _ _ _ E _ O OA FA R hw) fun v s₁ av σ₁ v1 R1 i1 h1 => ?_) hm
  refine thenV (hb _ _ _ _ _ E _ O OA FA R1 h1) fun u s₂ au σ₂ v2 R2 i2 h2 => ?_
  refine wpAny_mono (cmp_sound B.ck OA R2 (v1.mono i2) v2 h2) (fun _ _ zz => ?_) fun _ _ e => e
  obtain ⟨c, t, e1, e2, e3⟩ := zz
  subst e1 e2
  exact (PV.pure R2 _ (.bool _) e3).from (i1.trans i2)

theorem snd_ccmp (B : Base C cyc K T Γ d ct) {l r : Expr} {a b : ME} {op : CmpOp} {p : Pos} (hm : behindInMarks op r = false) (ha : SndE C T d ct sc l a) (hb : SndE C T d ct sc r b) : SndC C T d ct sc (.Compare l [op] [r] p) (.cmp op a b) := by
  intro Pr env σ s A E Q O OA FA R hw
  refine wpAny_isTrue_Compare1 (thenV (ha _ _ _ _ _ E _ O OA FA R hw) fun v s₁ av σ₁ v1 R1 i1 h1 => ?_) hm
  refine thenV (hb _ _ _ _ _ E _ O OA FA R1 h1) fun u s₂ au σ₂ v2 R2 i2 h2 => ?_
  refine wpAny_mono (cmp_sound B.ck OA R2 (v1.mono i2) v2 h2) (fun _ _ zz => ?_) fun _ _ e => e
  obtain ⟨c, t, e1, e2, e3⟩ := zz
  subst e1 e2
  exact wpAny_truthy_bool ((PB.pure R2 _ e3).from (i1.trans i2))

theorem snd_cnot {x : Expr} {c : MC} {p : Pos} (hc : SndC C T d ct sc x c) : SndC C T d ct sc (.UnaryOp .Not x p) (.not c) := by
  intro Pr env σ s A E Q O OA FA R hw
  exact wpAny_isTrue_Not (wpAny_mono (hc _ _ _ _ _ E _ O OA FA R hw) (fun b s₁ x => x) fun _ _ e => e)
theorem snd_cand {xs : List Expr} {cs : List MC} {p : Pos} (hc : SndCs C T d ct sc xs cs) : SndC C T d ct sc (.BoolOp .And xs p) (.and cs) := by
  intro Pr env σ s A E Q O OA FA R hw
  exact wpAny_isTrue_BoolOp ((hc _ _ _ _ _ E _ O OA FA R).1 hw)
theorem snd_cor {xs : List Expr} {cs : List MC} {p : Pos} (hc : SndCs C T d ct sc xs cs) : SndC C T d ct sc (.BoolOp .Or xs p) (.or cs) := by
  intro Pr env σ s A E Q O OA FA R hw
  exact wpAny_isTrue_BoolOp ((hc _ _ _ _ _ E _ O OA FA R).2 hw)
theorem snd_cplain (B : Base C cyc K T Γ d ct) {e : Expr} {a : ME} (ha : SndE C T d ct sc e a) (he : ∀ env w, isTrue e env w = (do let v ← w; standAt e.pos; holding [v] (truthy v))) : SndC C T d ct sc e (.plain a) := by
  intro Pr env σ s A E Q O OA FA R hw
  refine wpAny_isTrue_value (thenV (ha _ _ _ _ _ E _ O OA FA R hw) fun v s₁ av σ₁ v1 R1 i1 h1 => ?_) (he _ _)
  refine wpAny_mono (truth_sound B.ck OA R1 v1 h1) (fun c s₂ zz => ?_) fun _ _ e => e
  obtain ⟨t, e2, e3⟩ := zz
  subst e2
  exact (PB.pure R1 _ e3).from i1

theorem snd_cs_nil : SndCs C T d ct sc [] [] := by
  intro Pr env σ s A E Q O OA FA R
  exact ⟨fun hw => wpAny_allTrue_And_nil (PB.pure' R hw), fun hw => wpAny_allTrue_Or_nil (PB.pure' R hw)⟩
theorem snd_cs_cons {e : Expr} {c : MC} {es : List Expr} {cs : List MC} (h1 : SndC C T d ct sc e c) (h2 : SndCs C T d ct sc es cs) : SndCs C T d ct sc (e :: es) (c :: cs) := by
  intro Pr env σ s A E Q O OA FA R
  refine ⟨fun hw => wpAny_allTrue_And_cons (wpAny_mono (h1 _ _ _ _ _ E _ O OA FA R hw) (fun b s₁ ⟨σ₁, R1, i1, q⟩ => ?_) fun _ _ e => e),
    fun hw => wpAny_allTrue_Or_cons (wpAny_mono (h1 _ _ _ _ _ E _ O OA FA R hw) (fun b s₁ ⟨σ₁, R1, i1, q⟩ => ?_) fun _ _ e => e)⟩
  · cases b
    · exact (PB.pure' R1 q).from i1
    · exact wpAny_mono ((h2 _ _ _ _ _ E _ O OA FA R1).1 q) (fun _ _ x => x.from i1) fun _ _ e => e
  · cases b
    · exact wpAny_mono ((h2 _ _ _ _ _ E _ O OA FA R1).2 q) (fun _ _ x => x.from i1) fun _ _ e => e
    · exact (PB.pure' R1 q).from i1

theorem snd_ife {c a b : Expr} {c' : MC} {a' b' : ME} {p : Pos} (hc : SndC C T d ct sc c c') (ha : SndE C T d ct sc a a') (hb : SndE C T d ct sc b b') : SndE C T d ct sc (.IfExp c a b p) (.ife c' a' b') := by
  intro Pr env σ s A E Q O OA FA R hw
  refine wpAny_IfExp (wpAny_mono (hc _ _ _ _ _ E _ O OA FA R hw) (fun t s₁ zz => ?_) fun _ _ e => e)
  obtain ⟨σ₁, R1, i1, q⟩ := zz
  cases t
  · exact wpAny_mono (hb _ _ _ _ _ E _ O OA FA R1 q) (fun _ _ x => x.from i1) fun _ _ e => e
  · exact wpAny_mono (ha _ _ _ _ _ E _ O OA FA R1 q) (fun _ _ x => x.from i1) fun _ _ e => e

theorem kept_of (B : Base C cyc K T Γ d ct) {x : Str} {y : String} (h : Γ.kept sc x = some y) : Str.ofString y = x ∧ (y ∈ sc.loc ∨ y ∈ sc.own) := by
  unfold GT.kept at h
  split at h
  · rename_i z hz
    split at h
    · rename_i hin
      cases h
      obtain ⟨rfl, _⟩ := B.nm _ _ hz
      exact ⟨rfl, by simpa using hin⟩
    · cases h
  · cases h

theorem snd_walrus (B : Base C cyc K T Γ d ct) {x : Str} {v : Expr} {m : ME} {y : String} {p q : Pos} (hy : Γ.kept sc x = some y) (hv : SndE C T d ct sc v m) : SndE C T d ct sc (.NamedExpr (.Name x p) v q) (.walrus y m) := by
  intro Pr env σ s A E Q O OA FA R hw
  obtain ⟨rfl, hin⟩ := kept_of B hy
  refine wpAny_NamedExpr (thenV (hv _ _ _ _ _ E _ O OA FA R hw) fun w s₁ av σ₁ v1 R1 i1 h1 => ?_)
  refine wpAny_assign_Name (wpAny_mono (R1.storeN O hin v1 h1) (fun _ s₂ zz => ?_) fun _ _ e => e)
  obtain ⟨σ₂, R2, i2, q⟩ := zz
  exact ⟨av, σ₂, v1.mono i2, R2, i1.trans i2, q⟩

theorem snd_es_nil : SndEs C T d ct sc [] [] :=
  ⟨by simp, fun Pr env σ s A E Q p O OA FA R hw => spliced_nil ⟨[], σ, rfl, .nil, R, .refl _, hw⟩⟩
theorem star_cons {e : Expr} (hn : notStar e = true) (es : List Expr) (env : Env) : starEach (e :: es) env = (false, eval e env) :: starEach es env := by cases e <;> first | rfl | cases hn
theorem snd_es_cons {e : Expr} {m : ME} {es : List Expr} {ms : List ME} (hn : notStar e = true) (h1 : SndE C T d ct sc e m) (h2 : SndEs C T d ct sc es ms) : SndEs C T d ct sc (e :: es) (m :: ms) := by
  refine ⟨by simpa [hn] using h2.1, fun Pr env σ s A E Q p O OA FA R hw => ?_⟩
  have hs := star_cons hn es env
  rw [hs]
  show wpAny _ _ (spliced ((false, eval e env) :: backTo p (starEach es env))) _ _ _
  refine spliced_cons (thenV (h1 _ _ _ _ _ E _ O OA FA R hw) fun v s₁ av σ₁ v1 R1 i1 q1 => ?_)
  refine wpAny_mono (h2.2 _ _ _ _ _ E _ p O OA FA R1 q1) (fun vs s₂ zz => ?_) fun _ _ e => e
  obtain ⟨avs, σ₂, x0, x1, x2, x3, x4⟩ := zz
  exact ⟨av :: avs, σ₂, by simp [x0], .cons (v1.mono x3) x1, x2, i1.trans x3, x4⟩

theorem snd_int {i : Int} {k p} : SndE C T d ct sc (.Constant (.int i) k p) (.const (.int i)) := by
  intro Pr env σ s A E Q O OA FA R hw
  exact wpAny_Constant_int (PV.pure R _ (.int _ _) hw)
theorem snd_none {k p} : SndE C T d ct sc (.Constant .none k p) (.const .none) := by
  intro Pr env σ s A E Q O OA FA R hw
  exact wpAny_Constant_none (PV.pure' R .none hw)
theorem snd_bool {b : Bool} {k p} : SndE C T d ct sc (.Constant (.bool b) k p) (.const (.bool b)) := by
  intro Pr env σ s A E Q O OA FA R hw
  exact wpAny_Constant_bool (PV.pure' R (.bool _) hw)

theorem snd_list {es : List Expr} {ms : List ME} {p : Pos} (hl : es.length < 1000) (h : SndEs C T d ct sc es ms) : SndE C T d ct sc (.List es p) (.list ms) := by
  intro Pr env σ s A E Q O OA FA R hw
  refine wpAny_List (wpAny_mono (h.2 _ _ _ _ _ E _ p O OA FA R hw) (fun vs s₁ ⟨avs, σ₁, x0, x1, x2, x3, x4⟩ => ⟨by unfold sizeLine; omega, ?_⟩) fun _ _ e => e)
  refine (PV.push (o := .list avs) x2 ⟨_, _, rfl, ?_⟩ rfl x4).from x3
  exact x1.mono (push_imm _)
theorem snd_tup {es : List Expr} {ms : List ME} {k : Nat} {p : Pos} (hl : es.length < 1000) (h : SndEs C T d ct sc es ms) : SndE C T d ct sc (.Tuple es k p) (.tup ms) := by
  intro Pr env σ s A E Q O OA FA R hw
  refine wpAny_Tuple (wpAny_mono (h.2 _ _ _ _ _ E _ p O OA FA R hw) (fun vs s₁ ⟨avs, σ₁, x0, x1, x2, x3, x4⟩ => ⟨by unfold sizeLine; omega, ?_⟩) fun _ _ e => e)
  refine ⟨.tup avs, σ₁, .tup (vs := vs) ⟨_, Heap.get?_push_size _ rfl⟩ (x1.mono (push_imm _)), x2.keeps fun b o e => Heap.get?_push_of_some _ e, x3.trans (push_imm _), x4⟩
theorem snd_dict0 {p : Pos} : SndE C T d ct sc (.Dict [] [] p) .dict0 := by
  intro Pr env σ s A E Q O OA FA R hw
  refine wpAny_Dict_empty (PV.push (o := .dict [] 0) R ?_ rfl hw)
  refine ⟨?_, #[], [], rfl, ?_, ?_, by simp, .nil⟩
  · exact ⟨rfl, rfl, rfl⟩
  · intro e he; simp at he
  · exact .nil

theorem base_eq {o : Expr} (h : baseOk o = true) (attr : Str) (env : Env) (w : Sem Value) : attributeBase o attr env w = w := by
  cases o with
  | Call f as ks p =>
    cases f with
    | Name x q =>
      cases as with
      | nil =>
        cases ks with
        | nil => cases h
        | cons => rfl
      | cons => rfl
    | _ => rfl
  | _ => rfl

theorem snd_attr (B : Base C cyc K T Γ d ct) {o : Expr} {m : ME} {name : Str} {x : String} {p : Pos} (hb : baseOk o = true) (hx : Γ.nm name = some x) (h : SndE C T d ct sc o m) : SndE C T d ct sc (.Attribute o name p) (.attr m x) := by
  intro Pr env σ s A E Q O OA FA R hw
  obtain ⟨rfl, _⟩ := B.nm _ _ hx
  refine Attribute_any_ (thenV (h _ _ _ _ _ E _ O OA FA R hw) fun v s₁ av σ₁ v1 R1 i1 h1 => ?_) ?_
  · exact wpAny_mono (getAttr_sound B.kin B.tb R1 v1 h1) (fun _ _ x => x.from i1) fun _ _ e => e
  · rw [arm_eval_Attribute, base_eq hb]
theorem subscripted_plain {i : Expr} (h : notSlice i = true) (o iv : Value) : ∃ ops, subscripted i false o iv = operate ops (getItem o iv) := by
  cases i <;> first | exact ⟨_, rfl⟩ | cases h
theorem snd_sub (B : Base C cyc K T Γ d ct) {o i : Expr} {a b : ME} {p : Pos} (hi : notSlice i = true) (h1 : SndE C T d ct sc o a) (h2 : SndE C T d ct sc i b) : SndE C T d ct sc (.Subscript o i p) (.sub a b) := by
  intro Pr env σ s A E Q O OA FA R hw
  refine Subscript_ (thenV (h1 _ _ _ _ _ E _ O OA FA R hw) fun v s₁ av σ₁ v1 R1 i1 h1 => ?_)
  refine thenV (h2 _ _ _ _ _ E _ O OA FA R1 h1) fun u s₂ au σ₂ v2 R2 i2 h2 => ?_
  obtain ⟨ops, hs⟩ := subscripted_plain hi v u
  obtain ⟨Ty, id, hT, hl⟩ := sub_type R2 (v1.mono i2) h2
  exact tail_any hT hl (wpAny_mono (sub_sound R2 (v1.mono i2) v2 h2) (fun _ _ x => x.from (i1.trans i2)) fun _ _ e => e) hs
end
end Mine

end

section
open PySem PySem.W PyProof.Rows PySem.Calls
set_option Elab.async false
set_option backward.match.sparseCases false
set_option maxRecDepth 100000
namespace Mine

theorem filterMap_range (vs : List Value) : ∀ (n a : Nat), (List.range n).filterMap (fun k => vs[a + k]?) = (vs.drop a).take n := by
  intro n
  induction n with
  | zero => intro a; simp
  | succ n ih =>
    intro a
    rw [List.range_succ, List.filterMap_append, ih]
    rw [List.take_add_one, List.getElem?_drop]
    cases e : vs[a + n]? <;> simp [e]
theorem slice_cut (items : Array Value) (lo hi : Option Int) :
    (slicePick items lo hi none).toList = (items.toList.drop (match lo with | some i => (max 0 (min (if i < 0 then i + (items.size : Int) else i) items.size) : Int) | none => 0).toNat).take
      ((match hi with | some i => (max 0 (min (if i < 0 then i + (items.size : Int) else i) items.size) : Int) | none => items.size) - (match lo with | some i => (max 0 (min (if i < 0 then i + (items.size : Int) else i) items.size) : Int) | none => 0)).toNat := by
  have key : ∀ a b : Int, 0 ≤ a → ((sliceRange a b 1).filterMap (items[·]?)) = (items.toList.drop a.toNat).take (b - a).toNat := by
    intro a b ha
    unfold sliceRange
    simp only [show (1 : Int) > 0 from by decide, if_true]
    rw [← filterMap_range, List.filterMap_map]
    have e1 : (if a < b then (b - a + 1 - 1) / 1 else 0).toNat = (b - a).toNat := by
      split
      · rw [Int.ediv_one, Int.add_sub_cancel]
      · exact (Int.toNat_of_nonpos (by omega)).symm
    rw [e1]
    congr 1
    funext k
    have e2 : (a + 1 * (k : Int)).toNat = a.toNat + k := by omega
    simp only [Function.comp, e2]
    rw [Array.getElem?_toList]
  unfold slicePick
  simp only [sliceBounds, Option.getD_none, show (1 : Int) > 0 from by decide, if_true]
  rw [key]
  · cases lo <;> cases hi <;> rfl
  · cases lo with
    | none => exact Int.le_refl _
    | some i => exact Int.le_max_left _ _

section
variable {C : Cx} {cyc : Addr} {K : Frag} {T : Tb} {Γ : GT} {d : Nat} {ct : CT} {sc : Sc}

theorem snd_o_none : SndO C T d ct sc none none := by
  intro Pr env σ s A E Q O OA FA R hw
  rw [evalPart_none]
  exact wpAny_pure ⟨none, σ, .inl ⟨rfl, rfl⟩, R, .refl _, hw⟩
theorem snd_o_some {e : Expr} {m : ME} (h : SndE C T d ct sc e m) : SndO C T d ct sc (some e) (some m) := by
  intro Pr env σ s A E Q O OA FA R hw
  rw [evalPart_some]
  exact thenV (h _ _ _ _ _ E _ O OA FA R hw) fun v s₁ av σ₁ v1 R1 i1 h1 => ⟨some av, σ₁, .inr ⟨av, rfl, v1⟩, R1, i1, h1⟩

theorem part_of {h h' : Heap} (i : Imm h h') {av : Option AV} {v : Value} {k : Option Int} (x : (av = none ∧ v = .none) ∨ ∃ y, av = some y ∧ VR h y v) (e : asInt? av = some k) : IsPart v k := by
  rcases x with ⟨rfl, rfl⟩ | ⟨y, rfl, hv⟩
  · cases e; exact .none
  · cases y with
    | int i => cases e; obtain ⟨t, rfl⟩ := hv.int_inv; exact .int _ _
    | _ => cases e

theorem cut_vrs {h : Heap} {l : List AV} {vs : Array Value} (x : VRs h l vs.toList) (lo hi : Option Int) : VRs h (cutL l lo hi) (slicePick vs lo hi none).toList := by
  have hl : vs.size = l.length := by rw [← x.length]; simp
  rw [slice_cut, hl]
  unfold cutL
  exact (x.drop _).take _

theorem snd_slice {o : Expr} {a : ME} {lo hi : Option Expr} {ml mh : Option ME} {p q : Pos} (h1 : SndE C T d ct sc o a) (h2 : SndO C T d ct sc lo ml) (h3 : SndO C T d ct sc hi mh) :
    SndE C T d ct sc (.Subscript o (.Slice lo hi none q) p) (.slice a ml mh) := by
  intro Pr env σ s A E Q O OA FA R hw
  refine Subscript_ (thenV (h1 _ _ _ _ _ E _ O OA FA R hw) fun v s₁ av σ₁ v1 R1 i1 w1 => ?_)
  refine wpAny_Slice (wpAny_mono (h2 _ _ _ _ _ E _ O OA FA R1 w1) (fun vl s₂ zz => ?_) fun _ _ e => e)
  obtain ⟨al, σ₂, v2, R2, i2, w2⟩ := zz
  refine wpAny_mono (h3 _ _ _ _ _ E _ O OA FA R2 w2) (fun vu s₃ zz => ?_) fun _ _ e => e
  obtain ⟨au, σ₃, v3, R3, i3, w3⟩ := zz
  rw [evalPart_none]
  refine wpAny_pure ?_
  obtain ⟨b, l, i, j, rfl, e, hlen, e1, e2, w3⟩ := w3
  obtain rfl := v1.ref_inv
  obtain ⟨vs, n, hl, hv⟩ := R3.list e
  have hlen2 : vs.size = l.length := by rw [← hv.length]; simp
  have hL : s₃.heap.IsList b vs := ⟨_, hl, rfl, n, rfl⟩
  have hR := R3.keeps (h' := s₃.heap.push { cls := .type "slice", data := .fields #[vl, vu, .none] }) (t := s₃.toks) fun b o e => Heap.get?_push_of_some _ e
  refine tail_any (T := "list") (hL.push _).typeIs list_getitem_lookup (ops := [.ref s₃.heap.objs.size, .ref b]) (wpAny_getItem_list_slice (hL.push _) (Heap.IsSliceOf.new ..) (part_of i3 v2 e1) (part_of (.refl _) v3 e2) .none (by simp) ?_ (by unfold sizeLine; omega)) rfl
  refine (PV.push (o := .list (cutL l i j)) hR ⟨_, _, rfl, ?_⟩ rfl w3).from (i1.trans (i2.trans (i3.trans (push_imm _))))
  exact (cut_vrs (hv.mono (push_imm _)) i j).mono (push_imm _)

/-- the arguments of a call -/
theorem args_sound {f : Value} {es : List Expr} {ms : List ME} (h : SndEs C T d ct sc es ms) {Pr : Prt} {env : Env} {σ : AS} {s : Shared} {A : Around} {E : Value → Shared → Prop} {Q : LK} {k : Args → Shared → Prop} (p : Pos)
    (O : EnvOk sc env) (OA : OkA (d + 1) A) (FA : FS C A Pr env.locals) (R : RS C sc Pr env σ s) (hw : evalsW T ct ms Q σ)
    (hk : ∀ vs s₁ avs σ₁, VRs s₁.heap avs vs → RS C sc Pr env σ₁ s₁ → Imm s.heap s₁.heap → Q avs σ₁ → k ⟨vs, []⟩ s₁) :
    wpAny (model C.prog C.w) A (evalArgs f true (backTo p (starEach es env)) []) k E s := by
  have hm := wpAny_mono (h.2 _ _ _ _ _ E _ p O OA FA R hw) (Q' := fun vs s' => k ⟨vs, []⟩ s') (fun vs s₁ ⟨avs, σ₁, x0, x1, x2, x3, x4⟩ => hk vs s₁ avs σ₁ x1 x2 x3 x4) fun _ _ e => e
  cases es with
  | nil =>
    unfold evalArgs
    show wpAny _ _ (spliced [] >>= _) _ _ _
    refine wpAny_bind (wpAny_mono (Q := fun vs s' => k ⟨vs, []⟩ s') hm (fun vs s' h' => ?_) fun _ _ x => x)
    refine wpAny_bind (wpAny_pure (wpAny_holding ?_))
    exact wpAny_bind (wpAny_pure (wpAny_bind (wpAny_pure (wpAny_pure h'))))
  | cons e es =>
    have hn := h.1 e (by simp)
    have hs := star_cons hn es env
    rw [hs] at hm ⊢
    exact evalArgs_plain hm
theorem star_plain {es : List Expr} {env : Env} {x : Bool × Sem Value} (h : ∀ e ∈ es, notStar e = true) (hx : x ∈ starEach es env) : x.1 = false := by
  induction es with
  | nil => cases hx
  | cons e es ih =>
    rw [star_cons (h e (.head _))] at hx
    rcases List.mem_cons.mp hx with rfl | hx
    · rfl
    · exact ih (fun e he => h e (.tail _ he)) hx
theorem args_plain {es : List Expr} (h : ∀ e ∈ es, notStar e = true) (p : Pos) (env : Env) : (backTo p (starEach es env)).any (·.1) = false := by
  rw [List.any_eq_false]
  intro x hx
  unfold backTo at hx
  obtain ⟨y, hy, rfl⟩ := List.mem_map.mp hx
  simpa using star_plain h hy

theorem callWith_prim {M : Model} {A : Around} {E : Value → Shared → Prop} {s : Shared} {pos : Pos} {pr : Prim} {args : List (Bool × Sem Value)} {Q : Value → Shared → Prop} (hplain : args.any (·.1) = false)
    (h : wpAny M A (evalArgs pr.value true args []) (fun a s₁ => wpAny M A (call pr.value a.pos a.kw) Q E s₁) E s) :
    wpAny M A (callWith pos pr.value [] args []) Q E s := by
  have hk : keeperOf pr.value = pure .machine := by cases pr <;> rfl
  delta callWith
  refine wpAny_bind (wpAny_holding (wpAny_mono h (fun a s₁ h₁ => wpAny_bind (wpAny_standAt ?_)) fun _ _ x => x))
  simp only [hplain, List.any_nil, Bool.or_false]
  rw [hk]
  refine wpAny_bind (wpAny_pure ?_)
  exact wpAny_bind (wpAny_mono h₁ (fun r s₂ hr => wpAny_bind (wpAny_holding (wpAny_point (wpAny_pure hr)))) fun _ _ x => x)
theorem snd_pcall (B : Base C cyc K T Γ d ct) {f : Str} {y : String} {pr : Prim} {es : List Expr} {ms : List ME} {p q : Pos} (hg : Γ.glob sc f = some (y, .prim pr)) (h : SndEs C T d ct sc es ms) :
    SndE C T d ct sc (.Call (.Name f p) es [] q) (.pcall pr ms) := by
  intro Pr env σ s A E Q O OA FA R hw
  refine wpAny_Call_Name_kw (load_glob B hg O R fun v hv => ?_)
  have e : v = pr.value := VR.val_inv (hv s.heap)
  subst e
  exact callWith_prim (args_plain h.1 _ _) (args_sound h q O OA FA R hw fun vs s₁ avs σ₁ x1 x2 x3 x4 => wpAny_mono (prim_sound B.ck OA x2 x1 x4) (fun _ _ x => x.from x3) fun _ _ e => e)

theorem PR.mono {C : Cx} {cyc : Addr} {sc : Sc} {Pr : Prt} {env : Env} {h h' : Heap} {Q : VK} {X : AS → Prop} (i : Imm h' h) {A : Around} {E : Value → Shared → Prop} {f : Addr} {vs : List Value} {s : Shared}
    (x : codeAny (model C.prog C.w) A (.call (.ref f) ⟨vs, []⟩) (PR C cyc sc Pr env h Q X) s) (hX : ∀ e s', PX false C cyc sc Pr env h' X e s' → E e s') : wpAny (model C.prog C.w) A (call (.ref f) vs) (PV C sc Pr env h' Q) E s := by
  refine wpAny_call (codeAny_mono x fun r s' z => ?_)
  rcases r with e | (v | _ | _ | _)
  · obtain ⟨x, σ', e1, e2, e3, e4, e5⟩ := z
    exact hX _ _ ⟨x, σ', e1, e2, i.trans e3, e4, e5⟩
  all_goals first | exact z.elim | exact z.from i

/-- a def is called with arguments -/
theorem call_def {f : Addr} {first : List Value} {es : List Expr} {ms : List ME} (h : SndEs C T d ct sc es ms) {Pr : Prt} {env : Env} {σ : AS} {s : Shared} {A : Around} {E : Value → Shared → Prop} {Q : LK} {k : Value → Shared → Prop} (p : Pos)
    (O : EnvOk sc env) (OA : OkA (d + 1) A) (FA : FS C A Pr env.locals) (R : RS C sc Pr env σ s) (hw : evalsW T ct ms Q σ)
    (hk : ∀ vs s₁ avs σ₁, VRs s₁.heap avs vs → RS C sc Pr env σ₁ s₁ → Imm s.heap s₁.heap → Q avs σ₁ → (∃ o fd, C.s₁.heap.get? f = some o ∧ o.data = .func fd) ∧ wpAny (model C.prog C.w) A (call (.ref f) (first ++ vs)) k E s₁) :
    wpAny (model C.prog C.w) A (callWith p (.ref f) first (backTo p (starEach es env)) []) k E s := by
  by_cases hx : ∃ o fd, C.s₁.heap.get? f = some o ∧ o.data = .func fd
  · obtain ⟨o, fd, e1, e2⟩ := hx
    exact callWith_function_kw (o := o) (fd := fd) (args_sound h p O OA FA R hw fun vs s₁ avs σ₁ x1 x2 x3 x4 => ⟨⟨x2.keep _ _ e1, e2⟩, (hk vs s₁ avs σ₁ x1 x2 x3 x4).2⟩)
  · unfold callWith
    exact wpAny_bind (wpAny_holding (args_sound h p O OA FA R hw fun vs s₁ avs σ₁ x1 x2 x3 x4 => (hx (hk vs s₁ avs σ₁ x1 x2 x3 x4).1).elim))

theorem snd_fcall (B : Base C cyc K T Γ d ct) {f : Str} {y : String} {a : Addr} {es : List Expr} {ms : List ME} {p q : Pos} (hg : Γ.glob sc f = some (y, .fn a)) (h : SndEs C T d ct sc es ms) :
    SndE C T d ct sc (.Call (.Name f p) es [] q) (.fcall a ms) := by
  intro Pr env σ s A E Q O OA FA R hw
  refine wpAny_Call_Name_kw (load_glob B hg O R fun v hv => ?_)
  have e : v = .ref a := VR.ref_inv (hv s.heap)
  subst e
  show wpAny _ _ (callWith q (.ref a) [] (backTo q (starEach es env)) []) _ _ _
  exact call_def h q O OA FA R hw fun vs s₁ avs σ₁ x1 x2 x3 x4 => by
    obtain ⟨h1, h2⟩ := B.ct a avs vs _ _ sc Pr env σ₁ s₁ A O OA.call FA x2 x1 x4
    exact ⟨h1, PR.mono x3 h2 fun e s' ⟨_, _, _, _, _, _, y⟩ => y.elim⟩
end
end Mine

end

section
open PySem PySem.W PyProof.Rows PySem.Calls
set_option Elab.async false
set_option backward.match.sparseCases false
set_option maxRecDepth 100000
namespace Mine

def Prt.add (Pr : Prt) (b : Addr) (ob : Obj) : Prt := fun a => if a = b then some ob else Pr a

section
variable {C : Cx} {sc : Sc} {Pr : Prt} {env : Env} {σ : AS} {s : Shared} {A : Around}

theorem RS.prot1 (R : RS C sc Pr env σ s) {b : Addr} {ob : Obj} (hn : ¬ Rel C sc Pr env σ b) (hb : s.heap.get? b = some ob) : RS C sc (Pr.add b ob) env σ s := by
  have fr : ∀ {a}, a ≠ b → Free C Pr σ.heap a → Free C (Pr.add b ob) σ.heap a := fun ne ⟨x, y, z⟩ => ⟨x, by unfold Prt.add; rw [if_neg ne]; exact y, z⟩
  have nb : Pr b = none := by cases q : Pr b with
    | none => rfl
    | some o => exact (hn (.inr (.inl (by rw [q]; nofun)))).elim
  refine ⟨R.same, R.keep, fun a o e => ?_, R.trk, fun a o e => ?_, ⟨R.fr.loc, fr (by rintro rfl; exact hn (.inr (.inr (.inr (.inl rfl))))) R.fr.locF, fun x hx => ?_, fun x hx => ?_⟩, R.sl⟩
  · unfold Prt.add at e
    split at e
    · rename_i q; subst q; cases e; exact ⟨_, hb, .refl _⟩
    · exact R.prot a o e
  · rcases R.disj a o e with ⟨x, y⟩ | x
    · refine .inl ⟨x, ?_⟩
      unfold Prt.add
      rw [if_neg]; exact y
      rintro rfl
      exact hn (.inr (.inr (.inl (by rw [e]; nofun))))
    · exact .inr x
  · obtain ⟨c, v', a1, a2, a3, a4⟩ := R.fr.own x hx
    exact ⟨c, v', a1, a2, fr (by rintro rfl; exact hn (.inr (.inr (.inr (.inr ⟨x, hx, a1⟩))))) a3, a4⟩
  · obtain ⟨c, o, v', a1, a2, a3⟩ := R.fr.ro x hx
    refine ⟨c, o, v', a1, ?_, a3⟩
    unfold Prt.add
    rw [if_neg]; exact a2
    rintro rfl
    rw [nb] at a2; cases a2

theorem RS.unprot {b : Addr} {ob : Obj} (R : RS C sc (Pr.add b ob) env σ s) (nb : Pr b = none) (hro : ∀ x ∈ sc.ro, ∃ c o, env.cells.lookup (Str.ofString x) = some c ∧ Pr c = some o) : RS C sc Pr env σ s := by
  have un : ∀ {a}, (Pr.add b ob) a = none → Pr a = none := fun {a} h => by
    unfold Prt.add at h; split at h
    · cases h
    · exact h
  have sm : ∀ {a o}, Pr a = some o → (Pr.add b ob) a = some o := fun {a o} h => by
    unfold Prt.add; rw [if_neg]; exact h
    rintro rfl; rw [nb] at h; cases h
  refine ⟨R.same, R.keep, fun a o e => R.prot a o (sm e), R.trk, fun a o e => ?_, ⟨R.fr.loc, ⟨R.fr.locF.1, un R.fr.locF.2.1, R.fr.locF.2.2⟩, fun x hx => ?_, fun x hx => ?_⟩, R.sl⟩
  · rcases R.disj a o e with ⟨x, y⟩ | x
    · exact .inl ⟨x, un y⟩
    · exact .inr x
  · obtain ⟨c, v', a1, a2, a3, a4⟩ := R.fr.own x hx
    exact ⟨c, v', a1, a2, ⟨a3.1, un a3.2.1, a3.2.2⟩, a4⟩
  · obtain ⟨c, o, v', a1, a2, a3⟩ := R.fr.ro x hx
    obtain ⟨c', o', b1, b2⟩ := hro x hx
    rw [a1] at b1; cases b1
    have := sm b2
    rw [a2] at this; cases this
    exact ⟨c, o, v', a1, b2, a3⟩
theorem RS.roAt (R : RS C sc Pr env σ s) : ∀ x ∈ sc.ro, ∃ c o, env.cells.lookup (Str.ofString x) = some c ∧ Pr c = some o := fun x hx => by
  obtain ⟨c, o, v', a1, a2, a3⟩ := R.fr.ro x hx; exact ⟨c, o, a1, a2⟩
theorem FS.add {C : Cx} {A : Around} {Pr : Prt} {env : Env} (F : FS C A Pr env.locals) {b : Addr} (ob : Obj) (nb : Pr b = none) : FS C A (Pr.add b ob) env.locals := by
  obtain ⟨fs, h1, h2⟩ := F
  refine ⟨fs, h1, fun e he => ?_⟩
  obtain ⟨e0, F, e1, e2, e3⟩ := h2 e he
  refine ⟨e0, F, e1, e2, e3.imp id fun ⟨o, x, y⟩ => ⟨o, ?_, y⟩⟩
  unfold Prt.add; rw [if_neg]; exact x
  rintro rfl; rw [nb] at x; cases x
/-- an address that the heap does not hold matters to nobody -/
theorem RS.nrel (R : RS C sc Pr env σ s) {b : Addr} (hb : s.heap.get? b = none) : ¬ Rel C sc Pr env σ b := by
  have go : ∀ {o}, s.heap.get? b = some o → False := fun {o} e => by rw [hb] at e; cases e
  rintro (h | h | h | h | ⟨x, hx, h⟩)
  · cases q : C.s₁.heap.get? b with
    | none => exact h q
    | some o => exact go (R.keep _ _ q)
  · cases q : Pr b with
    | none => exact h q
    | some o => obtain ⟨_, e, _⟩ := R.prot _ _ q; exact go e
  · cases q : σ.heap b with
    | none => exact h q
    | some o => obtain ⟨_, e, _⟩ := R.trk _ _ q; exact go e
  · subst h; obtain ⟨m, ⟨o, _, _, e, _⟩, _⟩ := R.fr.loc; exact go e
  · obtain ⟨c, v', a1, ⟨o, a2, _⟩, _⟩ := R.fr.own x hx
    rw [h] at a1; cases a1; exact go a2
theorem RS.nopr (R : RS C sc Pr env σ s) {b : Addr} (hb : s.heap.get? b = none) : Pr b = none := by
  cases q : Pr b with
  | none => rfl
  | some o => exact (R.nrel hb (.inr (.inl (by rw [q]; nofun)))).elim
end

section
variable {C : Cx} {cyc : Addr} {K : Frag} {T : Tb} {Γ : GT} {d : Nat} {ct : CT} {sc : Sc}

/-- what was found as a method -/
def Found (C : Cx) (cyc : Addr) (d : Nat) (ct : CT) (v : Value) (p : Value × List Value) (fW : List AV → VK → (AS → Prop) → AS → Prop) : Prop :=
  (∃ f a, p = (.ref f, [v]) ∧ v = .ref a ∧ fW = fun as Q X τ => ct f (.ref a :: as) Q X τ) ∨
  (∃ id, p = (.builtin id, [v]) ∧ ∀ (sc : Sc) (Pr : Prt) (env : Env) (σ : AS) (s : Shared) (A : Around) (E : Value → Shared → Prop) (as : List AV) (vs : List Value) (Q : VK) (X : AS → Prop),
    RS C sc Pr env σ s → VRs s.heap as vs → fW as Q X σ → wpAny (model C.prog C.w) A (call (.builtin id) (v :: vs)) (PV C sc Pr env s.heap Q) E s)

theorem callee_sound (B : Base C cyc K T Γ d ct) {Pr : Prt} {env : Env} {σ : AS} {s : Shared} {A : Around} {E : Value → Shared → Prop} {ov : AV} {v : Value} {m : String} {pl : Sem Bool}
    {Kf : (List AV → VK → (AS → Prop) → AS → Prop) → Prop} (R : RS C sc Pr env σ s) (hv : VR s.heap ov v) (h : calleeW T ov m Kf ct σ) :
    wpAny (model C.prog C.w) A (getMethod v (Str.ofString m) pl) (fun p s' => s' = s ∧ ∃ fW, Kf fW ∧ Found C cyc d ct v p fW) E s := by
  cases ov with
  | ref a =>
    obtain rfl := hv.ref_inv
    delta calleeW at h; dsimp only at h
    generalize e : σ.heap a = ob at h
    rcases ob with _ | ob
    · exact False.elim h
    cases ob with
    | inst c dd =>
      obtain ⟨l, f, e2, hl, hm, hk⟩ := h
      have M := B.tb.meth _ _ _ hm
      obtain ⟨od, es, ep, I, e3, e4, e5, e6, e7, e8⟩ := R.inst e e2
      refine method_fn (R.frag B.kin) I M.ga M.gt M.at_ M.ty ?_ ⟨rfl, _, hk, .inl ⟨f, a, rfl, rfl, rfl⟩⟩
      unfold shadowIn
      dsimp only
      rw [lookIn_of e5 e7]
      have := e8 m
      rw [hl] at this
      cases q : nsFind es (Str.ofString m) with
      | none => rfl
      | some z => rw [q] at this; cases this
    | list l =>
      obtain ⟨hm, hk⟩ := h
      obtain ⟨vs, n, e1, e2⟩ := R.list e
      have fin : ∀ m, Kf (fun as Q _ τ => ∃ l, τ.heap a = some (.list l) ∧ biMethW a (.list l) m as Q τ) → (s = s ∧ ∃ fW, Kf fW ∧ Found C cyc d ct (.ref a) (.builtin ("list." ++ m), [.ref a]) fW) := fun m hk =>
        ⟨rfl, _, hk, .inr ⟨_, rfl, fun sc Pr env σ s A E as vs Q X R hv ⟨l, e, h⟩ => listMeth_sound R e hv h⟩⟩
      have hd : ∀ b, (Value.ref a) = .ref b → ∃ o, s.heap.get? b = some o ∧ o.dict = none := fun b q => by cases q; exact ⟨_, e1, rfl⟩
      have hT : s.TypeIs (.ref a) "list" := ⟨_, e1, rfl⟩
      simp only [List.mem_cons, List.not_mem_nil, or_false] at hm
      rcases hm with rfl | rfl | rfl | rfl | rfl | rfl
      · exact getMethod_builtin hT F.plainAttrs_list F.slot_list_append F.type_list_append hd (fin _ hk)
      · exact getMethod_builtin hT F.plainAttrs_list F.slot_list_extend F.type_list_extend hd (fin _ hk)
      · exact getMethod_builtin hT F.plainAttrs_list F.slot_list_pop F.type_list_pop hd (fin _ hk)
      · exact getMethod_builtin hT F.plainAttrs_list F.slot_list_clear F.type_list_clear hd (fin _ hk)
      · exact getMethod_builtin hT F.plainAttrs_list F.slot_list_index F.type_list_index hd (fin _ hk)
      · exact getMethod_builtin hT F.plainAttrs_list F.slot_list_count F.type_list_count hd (fin _ hk)
    | dict l ep =>
      obtain ⟨hm, hk⟩ := h
      obtain ⟨ob, e1, e2, _⟩ := R.trk _ _ e
      have fin : ∀ m, Kf (fun as Q _ τ => ∃ l ep, τ.heap a = some (.dict l ep) ∧ biMethW a (.dict l ep) m as Q τ) → (s = s ∧ ∃ fW, Kf fW ∧ Found C cyc d ct (.ref a) (.builtin ("dict." ++ m), [.ref a]) fW) := fun m hk =>
        ⟨rfl, _, hk, .inr ⟨_, rfl, fun sc Pr env σ s A E as vs Q X R hv ⟨l, _, e, h⟩ => dictMeth_sound B.ck R e hv h⟩⟩
      have hd : ∀ b, (Value.ref a) = .ref b → ∃ o, s.heap.get? b = some o ∧ o.dict = none := fun b q => by cases q; exact ⟨_, e1, e2.2.1⟩
      have hT : s.TypeIs (.ref a) "dict" := ⟨_, e1, e2.1⟩
      simp only [List.mem_cons, List.not_mem_nil, or_false] at hm
      rcases hm with rfl | rfl
      · exact getMethod_builtin hT F.plainAttrs_dict F.slot_dict_get F.type_dict_get hd (fin _ hk)
      · exact getMethod_builtin hT F.plainAttrs_dict F.slot_dict_values F.type_dict_values hd (fin _ hk)
    | set l =>
      obtain ⟨hm, hlen, hk⟩ := h
      have hS := R.setOf e hlen
      have fin : ∀ m, Kf (fun as Q _ τ => ∃ l, τ.heap a = some (.set l) ∧ biMethW a (.set l) m as Q τ) → (s = s ∧ ∃ fW, Kf fW ∧ Found C cyc d ct (.ref a) (.builtin ("set." ++ m), [.ref a]) fW) := fun m hk =>
        ⟨rfl, _, hk, .inr ⟨_, rfl, fun sc Pr env σ s A E as vs Q X R hv ⟨l, e, h⟩ => setMeth_sound R e hv h⟩⟩
      simp only [List.mem_cons, List.not_mem_nil, or_false] at hm
      subst hm
      exact getMethod_set_add hS (fin _ hk)
    | _ => exact False.elim h
  | _ => exact False.elim h

/-- the head of a method call -/
theorem meth_head {o : Expr} {name : Str} {apos pos : Pos} {es : List Expr} {env : Env} {M : Model} {A : Around} {E : Value → Shared → Prop} {s : Shared} {Q : Value → Shared → Prop} (hb : baseOk o = true) (hl : (apos.endLine == pos.line) = true)
    (hn : ∀ e ∈ es, notStar e = true) (hlen : es.length < 20)
    (h : wpAny M A (eval o env) (fun ov s₁ => ∀ pl, wpAny M A (getMethod ov name pl) (fun p s₂ => wpAny M A (callWith pos p.1 p.2 (backTo pos (starEach es env)) []) Q E s₂) E s₁) E s) :
    wpAny M A (eval (.Call (.Attribute o name apos) es [] pos) env) Q E s := by
  rw [arm_eval_Call, base_eq hb]
  refine wpAny_bind (wpAny_mono h (fun ov s₁ h₁ => wpAny_bind (wpAny_standAt ?_)) fun _ _ e => e)
  have hform : methodCallForm (es.length + ([] : List Keyword).length) (backTo pos (starEach es env)) (backToKw pos (keywordEach [] env)) = true := by
    unfold methodCallForm
    have h1 : (backTo pos (starEach es env)).all (!·.1) = true := by
      rw [List.all_eq_true]
      intro x hx
      unfold backTo at hx
      obtain ⟨y, hy, rfl⟩ := List.mem_map.mp hx
      simpa using star_plain hn hy
    rw [h1]
    have h2 : backToKw pos (keywordEach [] env) = [] := rfl
    rw [h2]
    simp; omega
  have hpos : methodCallPos true o env apos pos = pure pos := by unfold methodCallPos; simp [hl]
  unfold methodCall
  rw [hform]
  unfold calleeOf
  rw [if_pos rfl]
  refine wpAny_bind (wpAny_holding (wpAny_mono (h₁ _) (fun p s₂ h₂ => ?_) fun _ _ e => e))
  exact wpAny_bind (wpAny_of_eq hpos h₂)

theorem snd_meth (B : Base C cyc K T Γ d ct) {o : Expr} {mo : ME} {name : Str} {x : String} {es : List Expr} {ms : List ME} {p q : Pos} (hb : baseOk o = true) (hl : (p.endLine == q.line) = true) (hlen : es.length < 20) (hx : Γ.nm name = some x)
    (h1 : SndE C T d ct sc o mo) (h : SndEs C T d ct sc es ms) : SndE C T d ct sc (.Call (.Attribute o name p) es [] q) (.meth mo x ms) := by
  intro Pr env σ s A E Q O OA FA R hw
  obtain ⟨rfl, _⟩ := B.nm _ _ hx
  refine meth_head hb hl h.1 hlen (thenV (h1 _ _ _ _ _ E _ O OA FA R hw) fun v s₁ av σ₁ v1 R1 i1 w1 => fun pl => ?_)
  refine wpAny_mono (callee_sound (cyc := cyc) B R1 v1 w1) (fun p' s₂ zz => ?_) fun _ _ e => e
  obtain ⟨es2, fW, hk, hF⟩ := zz
  subst es2
  rcases hF with ⟨f, a, rfl, rfl, rfl⟩ | ⟨id, rfl, hF⟩
  · refine call_def h q O OA FA R1 hk fun vs s₃ avs σ₃ x1 x2 x3 x4 => ?_
    obtain ⟨y1, y2⟩ := B.ct f (.ref a :: avs) (.ref a :: vs) _ _ sc Pr env σ₃ s₃ A O OA.call FA x2 (.cons (.ref a) x1) x4
    exact ⟨y1, PR.mono (i1.trans x3) y2 fun e s' ⟨_, _, _, _, _, _, y⟩ => y.elim⟩
  · refine callWith_builtin (args_plain h.1 _ _) (args_sound h q O OA FA R1 hk fun vs s₃ avs σ₃ x1 x2 x3 x4 => ?_)
    exact wpAny_mono (hF sc Pr env σ₃ s₃ A E avs vs Q _ x2 x1 x4) (fun _ _ x => x.from (i1.trans x3)) fun _ _ e => e
end
end Mine

end

section
open PySem PySem.W PyProof.Rows PySem.Calls
set_option Elab.async false
set_option backward.match.sparseCases false
set_option maxRecDepth 100000
namespace Mine
section
variable {C : Cx} {cyc : Addr} {K : Frag} {T : Tb} {Γ : GT} {d : Nat} {ct : CT} {sc : Sc}

/-- a method of an instance, bound -/
theorem bound_get (B : Base C cyc K T Γ d ct) {Pr : Prt} {env : Env} {σ : AS} {s : Shared} {A : Around} {E : Value → Shared → Prop} {x c dd f : Addr} {l : List (String × AV)} {m : String} {ex : Bool} {Q : Value → Shared → Prop}
    (R : RS C sc Pr env σ s) (e : σ.heap x = some (.inst c dd)) (e2 : σ.heap dd = some (.ns l)) (hl : l.lookup m = none) (hm : T.meth c m = some f)
    (hq : Q (.ref s.heap.objs.size) { s with heap := s.heap.push (methodObj (.ref f) (.ref x)), toks := s.toks + 1 }) : wpAny (model C.prog C.w) A (getAttr (.ref x) (Str.ofString m) ex) Q E s := by
  have M := B.tb.meth _ _ _ hm
  obtain ⟨od, es, ep, I, e3, e4, e5, e6, e7, e8⟩ := R.inst e e2
  have hn : nsFind es (Str.ofString m) = none := by
    have := e8 m
    rw [hl] at this
    cases q : nsFind es (Str.ofString m) with
    | none => rfl
    | some z => rw [q] at this; cases this
  have hf : findObj K c (some od) (Str.ofString m) = some (.bind (.builtin "function.__get__") (.ref f)) := by
    unfold findObj W.ownOf
    have hcd : ∃ cd, clsIn K c = some cd := let ⟨cd, a, _⟩ := any_some M.over; ⟨cd, a⟩
    obtain ⟨cd, hcd⟩ := hcd
    rw [hcd, M.at_]
    simp only [Option.bind_some, M.get, M.takes, lookIn_of e5 e7, hn, M.cp, Bool.false_and]
    split <;> rfl
  refine get_bind (R.frag B.kin) I M.ga hf M.gt (wpAny_call (fn_get (R.frag B.kin) M.ty ?_))
  exact handed_on rfl hq

theorem Sim.eq {o o' : Obj} (x : Sim o o') (h : o.cls ≠ .type "frame") : o' = o := by
  obtain ⟨a, b, e⟩ := x
  obtain ⟨c, e⟩ := e h
  cases o; cases o'
  simp only at a b c e
  simp only [a, b, c, e]
/-- a star argument alone -/
theorem late_args {f : Value} {x : Sem Value} {M : Program × World} {A : Around} {E : Value → Shared → Prop} {s : Shared} {Q : Args → Shared → Prop}
    (h : wpAny (model M.1 M.2) A x (fun v s₁ => ∃ a vs, v = .ref a ∧ IsTp s₁.heap a vs ∧ vs.length ≤ sizeLine ∧ ∀ h', (∀ b o', s₁.heap.get? b = some o' → h'.get? b = some o') → Q ⟨vs, []⟩ { s₁ with heap := h' }) E s) :
    wpAny (model M.1 M.2) A (evalArgs f true [(true, x)] []) Q E s := by
  unfold evalArgs
  refine wpAny_bind (wpAny_mono h (fun v s₁ zz => ?_) fun _ _ e => e)
  obtain ⟨a, vs, e, ht, hs, hq⟩ := zz
  subst e
  obtain ⟨n, hn⟩ := ht
  refine wpAny_bind (wpAny_pure (wpAny_holding ?_))
  dsimp only
  rw [if_pos (by rfl)]
  refine wpAny_bind (wpAny_pure ?_)
  refine wpAny_bind ?_
  refine wpAny_bind ?_
  unfold notIterableAtAll
  refine wpAny_bind (wpAny_specialOf (T := "tuple") ⟨_, hn, rfl⟩ PySem.F.slot_tuple_iter.lookup ?_)
  refine wpAny_pure ?_
  rw [if_neg (by decide)]
  refine wpAny_holding (wpAny_collect_seq a (T := "tuple") (.inr rfl) hn rfl rfl (fun h' hk => ?_) (by simpa using hs))
  exact wpAny_pure (by simpa using hq h' hk)

theorem starred_call {pos : Pos} {b f : Addr} {self : Value} {x : Sem Value} {A : Around} {E : Value → Shared → Prop} {s : Shared} {Q : Value → Shared → Prop}
    (h : wpAny (model C.prog C.w) A (evalArgs (.ref b) true [(true, x)] []) (fun a s₁ => s₁.heap.get? b = some (methodObj (.ref f) self) ∧ (∃ o fd, s₁.heap.get? f = some o ∧ o.data = .func fd) ∧ wpAny (model C.prog C.w) A (call (.ref b) a.pos a.kw) Q E s₁) E s) :
    wpAny (model C.prog C.w) A (callWith pos (.ref b) [] [(true, x)] []) Q E s := by
  unfold callWith
  refine wpAny_bind (wpAny_holding (wpAny_mono h (fun a s₁ ⟨h1, ⟨o, fd, h2, h3⟩, h4⟩ => wpAny_bind (wpAny_standAt ?_)) fun _ _ x => x))
  refine wpAny_bind (m := keeperOf (.ref b)) ?_
  unfold keeperOf
  refine wpAny_bind (wpAny_load h1 ?_)
  dsimp only
  rw [if_neg (by decide)]
  refine wpAny_bind (wpAny_load h2 ?_)
  rw [h3]
  refine wpAny_pure ?_
  refine wpAny_bind (wpAny_operating (wpAny_mono h4 (fun r s₂ hr => wpAny_bind (wpAny_holding (wpAny_point (wpAny_pure hr)))) fun _ _ x => x))

theorem snd_methS (B : Base C cyc K T Γ d ct) {o a : Expr} {mo ma : ME} {name : Str} {x : String} {p q r : Pos} (hb : baseOk o = true) (hx : Γ.nm name = some x)
    (h1 : SndE C T d ct sc o mo) (h2 : SndE C T d ct sc a ma) : SndE C T d ct sc (.Call (.Attribute o name p) [.Starred a r] [] q) (.methS mo x ma) := by
  intro Pr env σ s A E Q O OA FA R hw
  obtain ⟨rfl, _⟩ := B.nm _ _ hx
  rw [arm_eval_Call, base_eq hb]
  refine wpAny_bind (thenV (h1 _ _ _ _ _ E _ O OA FA R hw) fun v s₁ av σ₁ v1 R1 i1 w1 => wpAny_bind (wpAny_standAt ?_))
  obtain ⟨xa, c, dd, l, f, rfl, e1, e2, e3, e4, w1⟩ := w1
  obtain rfl := v1.ref_inv
  unfold methodCall
  have hform : methodCallForm ([Expr.Starred a r].length + ([] : List Keyword).length) (backTo q (starEach [.Starred a r] env)) (backToKw q (keywordEach [] env)) = false := rfl
  rw [hform]
  unfold calleeOf
  rw [if_neg (by decide)]
  refine wpAny_bind (wpAny_holding (wpAny_bind (bound_get B R1 e1 e2 e3 e4 (wpAny_pure ?_))))
  refine wpAny_bind (m := methodCallPos false o env p q) (wpAny_pure ?_)
  have hs : backTo q (starEach [.Starred a r] env) = [(true, do let v ← eval a env; standAt q; pure v)] := rfl
  rw [hs]
  have hk1 : ∀ b o, s₁.heap.get? b = some o → (s₁.heap.push (methodObj (.ref f) (.ref xa))).get? b = some o := fun b o e => Heap.get?_push_of_some _ e
  have hg := Heap.get?_push_size s₁.heap (o := methodObj (.ref f) (.ref xa)) rfl
  have R2 := R1.keeps (t := s₁.toks + 1) hk1
  have nr : ¬ Rel C sc Pr env σ₁ s₁.heap.objs.size := R1.nrel (get_size _)
  have np : Pr s₁.heap.objs.size = none := R1.nopr (get_size _)
  have R3 := R2.prot1 nr hg
  by_cases hfn : ∃ o fd, C.s₁.heap.get? f = some o ∧ o.data = .func fd
  · obtain ⟨of, fd, hf1, hf2⟩ := hfn
    refine starred_call (f := f) (self := .ref xa) (late_args (M := (C.prog, C.w)) (wpAny_bind (thenV (h2 _ _ _ _ _ E _ O OA (FA.add _ np) R3 w1) fun u s₃ au σ₃ v3 R4 i3 w3 => wpAny_bind (wpAny_standAt (wpAny_pure ?_)))))
    obtain ⟨vs, rfl, hlen, w3⟩ := w3
    obtain ⟨ua, us, rfl, ht, hvs⟩ := v3.tup_inv
    refine ⟨ua, us, rfl, ht, by have := hvs.length; unfold sizeLine; omega, fun h' hk => ?_⟩
    obtain ⟨om, ho1, ho2⟩ := R4.prot s₁.heap.objs.size (methodObj (.ref f) (.ref xa)) (by unfold Prt.add; rw [if_pos rfl])
    have ho3 : om = methodObj (.ref f) (.ref xa) := ho2.eq (by simp [methodObj])
    subst ho3
    have R5 := (R4.unprot np R1.roAt).keeps (t := s₃.toks) hk
    refine ⟨hk _ _ ho1, ⟨of, fd, R5.keep _ _ hf1, hf2⟩, ?_⟩
    obtain ⟨_, y2⟩ := B.ct f (.ref xa :: vs) (.ref xa :: us) _ _ sc Pr env σ₃ _ A O OA.call FA R5 (.cons (.ref xa) (hvs.mono (.of_keeps hk))) w3
    refine wpAny_call (method_call (hk _ _ ho1) (codeAny_mono y2 fun r s' z => ?_))
    rcases r with e | (v | _ | _ | _)
    · obtain ⟨_, _, _, _, _, _, y⟩ := z; exact y.elim
    all_goals first | exact z.elim | exact z.from (i1.trans ((Imm.of_keeps hk1).trans (i3.trans (.of_keeps hk))))
  · unfold callWith
    refine wpAny_bind (wpAny_holding (late_args (M := (C.prog, C.w)) (wpAny_bind (thenV (h2 _ _ _ _ _ E _ O OA (FA.add _ np) R3 w1) fun u s₃ au σ₃ v3 R4 i3 w3 => ?_))))
    obtain ⟨vs, rfl, hlen, w3⟩ := w3
    obtain ⟨ua, us, rfl, ht, hvs⟩ := v3.tup_inv
    exact (hfn (B.ct f (.ref xa :: vs) (.ref xa :: us) _ _ sc Pr env σ₃ s₃ A O OA.call FA (R4.unprot np R1.roAt) (.cons (.ref xa) hvs) w3).1).elim

theorem tc_weight (c : Addr) (rest : List Value) : Code.weight (.builtin "type.__call__" ⟨.ref c :: rest, []⟩) = 1 := by kernel_rfl
theorem tc_units (c : Addr) (rest : List Value) : Code.cUnits (.builtin "type.__call__" ⟨.ref c :: rest, []⟩) = 1 := by kernel_rfl
theorem tc_envs (c : Addr) (rest : List Value) : Code.envs (.builtin "type.__call__" ⟨.ref c :: rest, []⟩) = [] := by kernel_rfl
theorem in_ok {c : Addr} {rest : List Value} {A : Around} (OA : OkA (d + 1) A) : OkC d (A.under (.builtin "type.__call__" ⟨.ref c :: rest, []⟩)) := by
  have hd := OA.depth
  have hu := OA.units
  obtain ⟨e', l, h1, h2⟩ := OA.frames
  refine ⟨OA.handled, ?_, ?_, ⟨e', l, ?_, h2⟩⟩
  · show A.depth + Code.weight _ + 10 * d + 5 < 800
    have : Code.weight (.builtin "type.__call__" ⟨.ref c :: rest, []⟩) = 1 := tc_weight c rest
    omega
  · show A.units + Code.cUnits _ + 100 * d + 50 < 9000
    have : Code.cUnits (.builtin "type.__call__" ⟨.ref c :: rest, []⟩) = 1 := tc_units c rest
    omega
  · rw [Around.under, tc_envs]; exact h1
theorem in_fs {C : Cx} {c : Addr} {rest : List Value} {A : Around} {Pr : Prt} {L : Addr} (F : FS C A Pr L) : FS C (A.under (.builtin "type.__call__" ⟨.ref c :: rest, []⟩)) Pr L := by
  obtain ⟨fs, h1, h2⟩ := F
  refine ⟨fs, ?_, h2⟩
  rw [Around.under, tc_envs]; exact h1

/-- a class of the text is called -/
theorem new_sound (B : Base C cyc K T Γ d ct) {Pr : Prt} {env : Env} {σ : AS} {s : Shared} {A : Around} {E : Value → Shared → Prop} {c : Addr} {as : List AV} {vs : List Value} {Q : VK}
    (O : EnvOk sc env) (OA : OkA (d + 1) A) (FA : FS C A Pr env.locals) (R : RS C sc Pr env σ s) (hv : VRs s.heap as vs) (h : newW T c as ct Q σ) : wpAny (model C.prog C.w) A (call (.ref c) vs) (PV C sc Pr env s.heap Q) E s := by
  obtain ⟨hh, g, dr, t, os⟩ := s
  have k1 : ∀ b o, hh.get? b = some o → ((hh.push emptyDict).push (instObj c hh.objs.size)).get? b = some o := fun b o e => Heap.get?_push_of_some _ (Heap.get?_push_of_some _ e)
  have fin : ∀ f (σ' : AS), T.meth c "__init__" = some f → RS C sc Pr env σ' ⟨(hh.push emptyDict).push (instObj c hh.objs.size), g, dr, t, os⟩ →
      ct f (.ref (hh.objs.size + 1) :: as) (fun v τ => v = .none ∧ Q (.ref (hh.objs.size + 1)) τ) (fun _ => False) σ' →
      wpAny (model C.prog C.w) A (call (.ref c) vs) (PV C sc Pr env hh Q) E ⟨hh, g, dr, t, os⟩ := by
    intro f σ' hm R' hw
    have M := B.tb.meth _ _ _ hm
    have X : K.In hh := R.frag B.kin
    refine wpAny_call (make_core (init := .ref f) (makes_of X M.makes) (looks_findIn X M.at_) (fun self => bind_fn X self M.ty) (.inl rfl) ?_)
    obtain ⟨_, y2⟩ := B.ct f (.ref (hh.objs.size + 1) :: as) (.ref (hh.objs.size + 1) :: vs) _ _ sc Pr env σ' _ _ O (in_ok (c := c) (rest := vs) OA) (in_fs (c := c) (rest := vs) FA) R' (.cons (.ref _) (hv.mono (.of_keeps k1))) hw
    refine codeAny_mono y2 fun r s' z => ?_
    rcases r with e | (v | _ | _ | _)
    · obtain ⟨_, _, _, _, _, _, y⟩ := z; exact y.elim
    all_goals first | exact z.elim | skip
    obtain ⟨av, σ₂, z1, z2, z3, rfl, z4⟩ := z
    cases z1
    exact ⟨rfl, .ref _, σ₂, .ref _, z2, (Imm.of_keeps k1).trans z3, z4⟩
  have hd : σ.heap hh.objs.size = none := R.fresh
  unfold newW at h
  split at h
  · obtain ⟨f, hm, h⟩ := h
    have R1 := R.push (ob := emptyDict) (o := .sdict) (t := t) rfl rfl
    have R2 := R1.push (ob := instObj c hh.objs.size) (o := .slots c hh.objs.size []) (t := t) ⟨#[], rfl, .nil⟩ rfl (fun _ _ _ e => by cases e; simp [AS.ins, Hp.ins])
    have hz : (hh.push emptyDict).objs.size = hh.objs.size + 1 := Heap.size_push ..
    have ha : σ.heap (hh.objs.size + 1) = none := by
      have := R1.fresh
      simp only [hz] at this
      simpa [AS.ins, Hp.ins] using this
    refine fin f _ hm ?_ (h (hh.objs.size + 1) hh.objs.size ha hd (Nat.succ_ne_self _))
    simp only [hz] at R2
    exact R2
  · obtain ⟨f, hm, h⟩ := h
    have R1 := R.push (ob := emptyDict) (o := .ns []) (t := t) ⟨rfl, #[], 0, rfl, by simp, by intro e he; simp at he, fun x => .none⟩ rfl
    have R2 := R1.push (ob := instObj c hh.objs.size) (o := .inst c hh.objs.size) (t := t) rfl rfl
    have hz : (hh.push emptyDict).objs.size = hh.objs.size + 1 := Heap.size_push ..
    have ha : σ.heap (hh.objs.size + 1) = none := by
      have := R1.fresh
      simp only [hz] at this
      simpa [AS.ins, Hp.ins] using this
    refine fin f _ hm ?_ (h (hh.objs.size + 1) hh.objs.size ha hd (Nat.succ_ne_self _))
    simp only [hz] at R2
    exact R2
end
end Mine

end

section
open PySem PySem.W PyProof.Rows PySem.Calls
set_option Elab.async false
set_option backward.match.sparseCases false
set_option maxRecDepth 100000
namespace Mine
section
variable {C : Cx} {cyc : Addr} {K : Frag} {T : Tb} {Γ : GT} {d : Nat} {ct : CT} {sc : Sc}

theorem callWith_class {pos : Pos} {c : Addr} {args : List (Bool × Sem Value)} {Q : Value → Shared → Prop} {M : Model} {A : Around} {E : Value → Shared → Prop} {s : Shared} (hplain : args.any (·.1) = false)
    (h : wpAny M A (evalArgs (.ref c) true args []) (fun a s₁ => Makes M s₁.heap c ∧ wpAny M A (call (.ref c) a.pos a.kw) Q E s₁) E s) :
    wpAny M A (callWith pos (.ref c) [] args []) Q E s := by
  unfold callWith
  refine wpAny_bind (wpAny_holding (wpAny_mono h (fun a s₁ ⟨Y, h₁⟩ => wpAny_bind (wpAny_standAt ?_)) fun _ _ x => x))
  obtain ⟨⟨oc, od, cd, sl, hC, _⟩, _, _, _, _, hcall, _⟩ := Y
  simp only [hplain, List.any_nil, Bool.or_false]
  refine wpAny_bind (m := keeperOf (.ref c)) ?_
  unfold keeperOf
  refine wpAny_bind (wpAny_load hC ?_)
  dsimp only
  refine wpAny_bind (hcall.at ?_)
  refine wpAny_pure ?_
  rw [if_pos (by rfl)]
  exact wpAny_bind (wpAny_mono h₁ (fun r s₂ hr => wpAny_bind (wpAny_holding (wpAny_point (wpAny_pure hr)))) fun _ _ x => x)

theorem newW_init {c : Addr} {as : List AV} {Q : VK} {σ : AS} (h : newW T c as ct Q σ) : ∃ f, T.meth c "__init__" = some f := by
  unfold newW at h
  split at h <;> exact ⟨_, h.choose_spec.1⟩

theorem snd_ncall (B : Base C cyc K T Γ d ct) {f : Str} {y : String} {a : Addr} {es : List Expr} {ms : List ME} {p q : Pos} (hg : Γ.glob sc f = some (y, .cls a)) (h : SndEs C T d ct sc es ms) :
    SndE C T d ct sc (.Call (.Name f p) es [] q) (.ncall a ms) := by
  intro Pr env σ s A E Q O OA FA R hw
  refine wpAny_Call_Name_kw (load_glob B hg O R fun v hv => ?_)
  have e : v = .ref a := VR.ref_inv (hv s.heap)
  subst e
  show wpAny _ _ (callWith q (.ref a) [] (backTo q (starEach es env)) []) _ _ _
  refine callWith_class (args_plain h.1 _ _) (args_sound h q O OA FA R hw fun vs s₁ avs σ₁ x1 x2 x3 x4 => ?_)
  obtain ⟨fi, hi⟩ := newW_init x4
  exact ⟨makes_of (x2.frag B.kin) (B.tb.meth _ _ _ hi).makes, wpAny_mono (new_sound B O OA FA x2 x1 x4) (fun _ _ x => x.from x3) fun _ _ e => e⟩
end
end Mine

end

section
open PySem PySem.W PyProof.Rows PySem.Calls
set_option Elab.async false
set_option backward.match.sparseCases false
set_option maxRecDepth 100000
namespace Mine

def iterNames : List String := ["list_iterator", "tuple_iterator", "range_iterator", "dict_keyiterator", "dict_valueiterator"]

/-- an iterator over given items, as long as a check holds -/
structure Wk (C : Cx) (it : Addr) (items : List AV) (chk : AS → Prop) (It : Nat → Obj → Prop) (h₀ : Heap) : Prop where
  kind : ∀ i o, It i o → ∃ T vs, T ∈ iterNames ∧ o.cls = .type T ∧ o.data = .fields vs
  item : ∀ (i : Nat) (x : AV) (A : Around) (sc : Sc) (Pr : Prt) (env : Env) (σ : AS) (s : Shared) (Q : Option Value → Shared → Prop) (E : Value → Shared → Prop) (o : Obj), A.handled = none → RS C sc Pr env σ s → Imm h₀ s.heap → chk σ →
    s.heap.get? it = some o → It i o → σ.heap it = none → items[i]? = some x →
    (∀ v h' tk o', VR h' x v → Heap.ExtBut it s.heap h' → h'.get? it = some o' → It (i + 1) o' → Q (some v) { s with heap := h', toks := tk }) → wpAny (model C.prog C.w) A (pyNext (.ref it)) Q E s
  done : ∀ (i : Nat) (A : Around) (sc : Sc) (Pr : Prt) (env : Env) (σ : AS) (s : Shared) (Q : Option Value → Shared → Prop) (E : Value → Shared → Prop) (o : Obj), A.handled = none → RS C sc Pr env σ s → Imm h₀ s.heap → chk σ →
    s.heap.get? it = some o → It i o → i = items.length →
    (∀ h' tk, Heap.ExtBut it s.heap h' → Q none { s with heap := h', toks := tk }) → wpAny (model C.prog C.w) A (pyNext (.ref it)) Q E s
  self : ∀ (i : Nat) (A : Around) (s : Shared) (Q : Value → Shared → Prop) (E : Value → Shared → Prop) (o : Obj), s.heap.get? it = some o → It i o → Q (.ref it) s → wpAny (model C.prog C.w) A (pyIter (.ref it)) Q E s

theorem iter_not_imm {o : Obj} {T : String} {vs : Array Value} (hT : T ∈ iterNames) (hc : o.cls = .type T) (_hd : o.data = .fields vs) : ¬ Obj.imm o := by
  have h1 : T ≠ "tuple" ∧ T ≠ "range" ∧ T ≠ "dict_values" := by
    simp only [iterNames, List.mem_cons, List.not_mem_nil, or_false] at hT
    rcases hT with rfl | rfl | rfl | rfl | rfl <;> decide
  rintro (⟨i, _⟩ | ⟨i | i, _⟩)
  · rw [hc] at i; cases i; exact h1.1 rfl
  · rw [hc] at i; cases i; exact h1.2.1 rfl
  · rw [hc] at i; cases i; exact h1.2.2 rfl
theorem imm_extBut {h h' : Heap} {it : Addr} {o : Obj} (ho : h.get? it = some o) (hn : ¬ Obj.imm o) (hx : Heap.ExtBut it h h') : Imm h h' := fun b ob e i => hx b ob (by
  rintro rfl; rw [ho] at e; cases e; exact hn i) e

theorem isIter_pred {T : String} {vs : Array Value} {h' : Heap} {it : Addr} (x : ∃ o, h'.get? it = some o ∧ o.cls = .type T ∧ o.data = .fields vs) : ∃ o', h'.get? it = some o' ∧ (o'.cls = .type T ∧ o'.data = .fields vs) := x

theorem wk_list (C : Cx) (it a : Addr) (l : List AV) (h₀ : Heap) : Wk C it l (fun τ => τ.heap a = some (.list l)) (fun i o => o.cls = .type "list_iterator" ∧ o.data = .fields #[.ref a, .int i 0]) h₀ where
  kind := fun i o h => ⟨_, _, by simp [iterNames], h.1, h.2⟩
  item := fun i x A sc Pr env σ s Q E o hh R i0 hc ho hI hn hx hQ => by
    obtain ⟨vs, hl, hv⟩ := R.isList hc
    obtain ⟨v, e1, e2⟩ := hv.get hx
    refine wpAny_pyNext_list_item (it := it) (i := i) ⟨o, ho, hI.1, hI.2⟩ hl (x := v) (by simpa using e1) fun h' hit' hs' => ?_
    obtain ⟨o', ho', h1⟩ := isIter_pred hit'
    exact hQ v h' s.toks o' (e2.mono (imm_extBut ho (iter_not_imm (by simp [iterNames]) hI.1 hI.2) hs'.extBut)) hs'.extBut ho' h1
  done := fun i A sc Pr env σ s Q E o hh R i0 hc ho hI hi hQ => by
    obtain ⟨vs, hl, hv⟩ := R.isList hc
    exact wpAny_pyNext_list_end (i := i) hh ⟨o, ho, hI.1, hI.2⟩ hl (by have := hv.length; simp; omega) fun h' he' => hQ h' s.toks he'
  self := fun i A s Q E o ho hI hQ => wpAny_pyIter_listiter (i := i) ⟨o, ho, hI.1, hI.2⟩ hQ

theorem wk_tuple (C : Cx) (it a : Addr) (l : List AV) (vs : List Value) (h₀ : Heap) (ht : IsTp h₀ a vs) (hv : VRs h₀ l vs) : Wk C it l (fun _ => True) (fun i o => o.cls = .type "tuple_iterator" ∧ o.data = .fields #[.ref a, .int i 0]) h₀ where
  kind := fun i o h => ⟨_, _, by simp [iterNames], h.1, h.2⟩
  item := fun i x A sc Pr env σ s Q E o hh R i0 hc ho hI hn hx hQ => by
    obtain ⟨v, e1, e2⟩ := (hv.mono i0).get hx
    have ht' : IsTp s.heap a vs := let ⟨n, e⟩ := ht; ⟨n, i0 _ _ e (.inl ⟨rfl, _, _, rfl⟩)⟩
    refine wpAny_pyNext_tuple_item (it := it) (i := i) ⟨o, ho, hI.1, hI.2⟩ ht'.tuple (x := v) (by simpa using e1) fun h' hit' hs' => ?_
    obtain ⟨o', ho', h1⟩ := isIter_pred hit'
    exact hQ v h' s.toks o' (e2.mono (imm_extBut ho (iter_not_imm (by simp [iterNames]) hI.1 hI.2) hs'.extBut)) hs'.extBut ho' h1
  done := fun i A sc Pr env σ s Q E o hh R i0 hc ho hI hi hQ => by
    have ht' : IsTp s.heap a vs := let ⟨n, e⟩ := ht; ⟨n, i0 _ _ e (.inl ⟨rfl, _, _, rfl⟩)⟩
    exact wpAny_pyNext_tuple_end (i := i) hh ⟨o, ho, hI.1, hI.2⟩ ht'.tuple (by have := hv.length; simp; omega) fun h' he' => hQ h' s.toks he'
  self := fun i A s Q E o ho hI hQ => wpAny_pyIter_tupleiter (i := i) ⟨o, ho, hI.1, hI.2⟩ hQ

theorem rangeL_get {lo hi : Int} {i : Nat} {x : AV} (h : ((rangeL lo hi).map AV.int)[i]? = some x) : x = .int (lo + i) ∧ (i : Int) < hi - lo := by
  unfold rangeL at h
  rw [List.map_map, List.getElem?_map] at h
  obtain ⟨j, h1, rfl⟩ := Option.map_eq_some_iff.mp h
  rw [List.getElem?_range] at h1
  · cases h1
    have := (List.getElem?_eq_some_iff.mp (Option.map_eq_some_iff.mp h).choose_spec.1).1
    simp at this
    exact ⟨rfl, by omega⟩
  · have := (List.getElem?_eq_some_iff.mp (Option.map_eq_some_iff.mp h).choose_spec.1).1
    simpa using this
theorem rangeL_length (lo hi : Int) : (rangeL lo hi).length = (hi - lo).toNat := by simp [rangeL]

theorem wk_range (C : Cx) (it : Addr) (lo hi : Int) (h₀ : Heap) : Wk C it ((rangeL lo hi).map .int) (fun _ => True) (fun i o => o = { cls := .type "range_iterator", data := .fields #[rawInt (lo + i), rawInt (((hi - lo).toNat : Int) - i), rawInt 1] }) h₀ where
  kind := fun i o h => by subst h; exact ⟨"range_iterator", _, by simp [iterNames], rfl, rfl⟩
  item := fun i x A sc Pr env σ s Q E o hh R i0 hc ho hI hn hx hQ => by
    obtain ⟨rfl, hlt⟩ := rangeL_get hx
    subst hI
    refine wpAny_pyNext_range_item (it := it) (x := lo + i) (left := ((hi - lo).toNat : Int) - i) (step := 1) ho (by omega) fun h' hit' hs' => ?_
    refine hQ _ h' _ _ (.int _ _) hs'.extBut hit' ?_
    have e1 : lo + (i : Int) + 1 = lo + ((i + 1 : Nat) : Int) := by push_cast; omega
    have e2 : ((hi - lo).toNat : Int) - i - 1 = ((hi - lo).toNat : Int) - ((i + 1 : Nat) : Int) := by push_cast; omega
    rw [e1, e2]
  done := fun i A sc Pr env σ s Q E o hh R i0 hc ho hI hi' hQ => by
    subst hI
    rw [List.length_map, rangeL_length] at hi'
    exact wpAny_pyNext_range_end (it := it) hh ho (by omega) fun h' he' => hQ h' s.toks he'
  self := fun i A s Q E o ho hI hQ => by subst hI; exact wpAny_pyIter_rangeiter ho hQ

theorem KV.getI {h : Heap} {l : List (Int × AV)} {kvs : List (Int × Value)} (x : KV h l kvs) : ∀ {i : Nat} {k : Int} {a : AV}, l[i]? = some (k, a) → ∃ v, kvs[i]? = some (k, v) ∧ VR h a v := by
  induction x with
  | nil => intro i k a e; simp at e
  | cons hv _ ih =>
    intro i k a e
    cases i with
    | zero => simp at e; obtain ⟨rfl, rfl⟩ := e; exact ⟨_, rfl, hv⟩
    | succ i => simp at e; obtain ⟨v, e1, e2⟩ := ih e; exact ⟨v, by simpa using e1, e2⟩
theorem KV.length {h : Heap} {l : List (Int × AV)} {kvs : List (Int × Value)} (x : KV h l kvs) : kvs.length = l.length := by
  have := congrArg List.length x.keys; simpa using this

theorem wk_keys (C : Cx) (it a : Addr) (l : List (Int × AV)) (ep : Nat) (h₀ : Heap) : Wk C it (l.map fun p => .int p.1) (fun τ => τ.heap a = some (.dict l ep)) (fun i o => o.cls = .type "dict_keyiterator" ∧ o.data = .fields #[.ref a, .int i 0, .int l.length 0, .int ep 0]) h₀ where
  kind := fun i o h => ⟨_, _, by simp [iterNames], h.1, h.2⟩
  item := fun i x A sc Pr env σ s Q E o hh R i0 hc ho hI hn hx hQ => by
    obtain ⟨kvs, hd, hk⟩ := R.dict hc
    rw [List.getElem?_map] at hx
    obtain ⟨⟨k, av⟩, hx1, rfl⟩ := Option.map_eq_some_iff.mp hx
    obtain ⟨v, e1, e2⟩ := hk.getI hx1
    refine wpAny_pyNext_dict_item (it := it) (i := i) (by rw [hk.length]; exact ⟨o, ho, hI.1, hI.2⟩) hd e1 fun key h' hkey hit' hs' => ?_
    rw [hk.length] at hit'
    obtain ⟨o', ho', h1⟩ := isIter_pred hit'
    have : ∃ t, key = .int k t := Value.isInt_shape hkey
    obtain ⟨t, rfl⟩ := this
    exact hQ _ h' s.toks o' (.int _ _) hs'.extBut ho' h1
  done := fun i A sc Pr env σ s Q E o hh R i0 hc ho hI hi hQ => by
    obtain ⟨kvs, hd, hk⟩ := R.dict hc
    exact wpAny_pyNext_dict_end (i := i) hh (by rw [hk.length]; exact ⟨o, ho, hI.1, hI.2⟩) hd (by have := hk.length; simp at hi ⊢; omega) fun h' he' => hQ h' s.toks he'
  self := fun i A s Q E o ho hI hQ => wpAny_pyIter_keyiter (i := i) ⟨o, ho, hI.1, hI.2⟩ hQ

theorem wk_vals (C : Cx) (it a : Addr) (l : List (Int × AV)) (ep : Nat) (h₀ : Heap) : Wk C it (l.map (·.2)) (fun τ => τ.heap a = some (.dict l ep)) (fun i o => o.cls = .type "dict_valueiterator" ∧ o.data = .fields #[.ref a, .int i 0, .int l.length 0, .int ep 0]) h₀ where
  kind := fun i o h => ⟨_, _, by simp [iterNames], h.1, h.2⟩
  item := fun i x A sc Pr env σ s Q E o hh R i0 hc ho hI hn hx hQ => by
    obtain ⟨kvs, hd, hk⟩ := R.dict hc
    rw [List.getElem?_map] at hx
    obtain ⟨⟨k, av⟩, hx1, rfl⟩ := Option.map_eq_some_iff.mp hx
    obtain ⟨v, e1, e2⟩ := hk.getI hx1
    refine wpAny_pyNext_values_item (it := it) (i := i) (by rw [hk.length]; exact ⟨o, ho, hI.1, hI.2⟩) hd e1 fun h' hit' hs' => ?_
    rw [hk.length] at hit'
    obtain ⟨o', ho', h1⟩ := isIter_pred hit'
    exact hQ _ h' s.toks o' (e2.mono (imm_extBut ho (iter_not_imm (by simp [iterNames]) hI.1 hI.2) hs'.extBut)) hs'.extBut ho' h1
  done := fun i A sc Pr env σ s Q E o hh R i0 hc ho hI hi hQ => by
    obtain ⟨kvs, hd, hk⟩ := R.dict hc
    exact wpAny_pyNext_values_end (i := i) hh (by rw [hk.length]; exact ⟨o, ho, hI.1, hI.2⟩) hd (by have := hk.length; simp at hi ⊢; omega) fun h' he' => hQ h' s.toks he'
  self := fun i A s Q E o ho hI hQ => wpAny_pyIter_valiter (i := i) ⟨o, ho, hI.1, hI.2⟩ hQ

section
variable {C : Cx} {sc : Sc} {Pr : Prt} {env : Env} {σ : AS} {s : Shared} {A : Around} {E : Value → Shared → Prop}

def IterPost (C : Cx) (s : Shared) (K : (AS → Prop) → List AV → Prop) (w : Value) (s' : Shared) : Prop :=
  ∃ o chk items It, And6 (w = .ref s.heap.objs.size) (s' = { s with heap := s.heap.push o }) (o.isFreed = false) (K chk items) (Wk C s.heap.objs.size items chk It s'.heap) (It 0 o)

theorem iter_sound (K : CxOk C) (R : RS C sc Pr env σ s) {src : AV} {v : Value} {Kt : (AS → Prop) → List AV → Prop} (hv : VR s.heap src v) (h : iterW src Kt σ) :
    wpAny (model C.prog C.w) A (pyIter v) (IterPost C s Kt) E s := by
  cases src with
  | ref a =>
    obtain rfl := hv.ref_inv
    delta iterW at h; dsimp only at h
    generalize e : σ.heap a = ob at h
    rcases ob with _ | ob
    · exact False.elim h
    cases ob with
    | list l =>
      obtain ⟨vs, hl, _⟩ := R.isList e
      exact wpAny_pyIter_list hl ⟨_, _, _, _, rfl, rfl, rfl, h, wk_list C _ a l _, rfl, rfl⟩
    | dict l ep =>
      obtain ⟨kvs, hd, hk⟩ := R.dict e
      exact wpAny_pyIter_dict (R.not_sys e (by nofun) K.sys) hd ⟨_, _, _, _, rfl, rfl, rfl, h, wk_keys C _ a l ep _, rfl, by rw [hk.length]; rfl⟩
    | _ => exact False.elim h
  | tup l =>
    obtain ⟨a, us, rfl, ht, hs⟩ := hv.tup_inv
    exact wpAny_pyIter_tuple ht.tuple ⟨_, _, _, _, rfl, rfl, rfl, h, wk_tuple C _ _ _ _ _ (let ⟨n, e⟩ := ht; ⟨n, Heap.get?_push_of_some _ e⟩) (hs.mono (push_imm _)), rfl, rfl⟩
  | range lo hi =>
    obtain ⟨a, t, u, w, rfl, hr⟩ : ∃ a t u w, v = .ref a ∧ IsRange s.heap a lo hi 1 t u w := hv.inv
    obtain ⟨h1, h2, h⟩ := h
    obtain ⟨g1, g2⟩ := small_range h1 h2
    refine wpAny_pyIter_range hr g1 ⟨_, _, _, _, rfl, rfl, rfl, h, wk_range C _ _ _ _, ?_⟩
    rw [g2]; simp
  | vals d =>
    obtain ⟨a, rfl, hw⟩ : ∃ a, v = .ref a ∧ s.heap.IsValuesView a d := hv.inv
    delta iterW at h; dsimp only at h
    generalize e : σ.heap d = ob at h
    rcases ob with _ | ob
    · exact False.elim h
    cases ob with
    | dict l ep =>
      obtain ⟨kvs, hd, hk⟩ := R.dict e
      exact wpAny_pyIter_values hw hd ⟨_, _, _, _, rfl, rfl, rfl, h, wk_vals C _ _ l ep _, rfl, by rw [hk.length]; rfl⟩
    | _ => exact False.elim h
  | _ => exact False.elim h
end
end Mine

end

section
open PySem PySem.W PyProof.Rows PySem.Calls
set_option Elab.async false
set_option backward.match.sparseCases false
set_option maxRecDepth 100000
namespace Mine

/-- the addresses of a frame's own -/
def OwnAt (sc : Sc) (env : Env) (a : Addr) : Prop := a = env.locals ∨ ∃ x ∈ sc.own, env.cells.lookup (Str.ofString x) = some a

open Classical in
/-- what is protected while another frame runs -/
noncomputable def Prt.frame (Pr : Prt) (sc : Sc) (env : Env) (h : Heap) : Prt := fun a =>
  if a = env.locals then (h.get? a).map (fun o => { o with cls := .type "frame" }) else if OwnAt sc env a then h.get? a else Pr a

section
variable {C : Cx} {sc sc' : Sc} {Pr : Prt} {env env' : Env} {σ τ : AS} {s s' : Shared} {A : Around}

theorem RS.own_free (R : RS C sc Pr env σ s) {a : Addr} (h : OwnAt sc env a) : Free C Pr σ.heap a ∧ ∃ o, s.heap.get? a = some o := by
  rcases h with rfl | ⟨x, hx, e⟩
  · obtain ⟨m, ⟨o, _, _, e, _⟩, _⟩ := R.fr.loc
    exact ⟨R.fr.locF, o, e⟩
  · obtain ⟨c, v', a1, ⟨o, a2, _⟩, a3, _⟩ := R.fr.own x hx
    rw [e] at a1; cases a1
    exact ⟨a3, o, a2⟩

theorem frame_other (Pr : Prt) {sc : Sc} {env : Env} (h : Heap) {a : Addr} (n : ¬ OwnAt sc env a) : Pr.frame sc env h a = Pr a := by
  unfold Prt.frame
  rw [if_neg (fun e => n (.inl e)), if_neg n]
theorem frame_own (Pr : Prt) {sc : Sc} {env : Env} {h : Heap} {a : Addr} (n : OwnAt sc env a) {o : Obj} (e : h.get? a = some o) : ∃ o', Pr.frame sc env h a = some o' ∧ o'.data = o.data ∧ Sim o' o := by
  unfold Prt.frame
  by_cases q : a = env.locals
  · rw [if_pos q, e]; exact ⟨_, rfl, rfl, rfl, rfl, fun h => (h rfl).elim⟩
  · rw [if_neg q, if_pos n, e]; exact ⟨_, rfl, rfl, .refl _⟩
theorem frame_some (R : RS C sc Pr env σ s) {a : Addr} {o : Obj} (e : Pr a = some o) : Pr.frame sc env s.heap a = some o := by
  rw [frame_other]; exact e
  intro n
  have := (R.own_free n).1.2.1
  rw [e] at this; cases this
theorem frame_none (R : RS C sc Pr env σ s) {a : Addr} (e : Pr.frame sc env s.heap a = none) : Pr a = none := by
  by_cases q : OwnAt sc env a
  · exact (R.own_free q).1.2.1
  · rw [frame_other _ _ q] at e; exact e

/-- a new frame is entered -/
theorem RS.enter (R : RS C sc Pr env σ s) {h' : Heap} {t : Tok} {lc : String → Option AV} (hk : ∀ b o, s.heap.get? b = some o → h'.get? b = some o) (F : Fm C sc' (Pr.frame sc env s.heap) env' ⟨lc, σ.heap⟩ h') :
    RS C sc' (Pr.frame sc env s.heap) env' ⟨lc, σ.heap⟩ { s with heap := h', toks := t } := by
  refine ⟨R.same_ht _ _, fun a o e => hk _ _ (R.keep a o e), fun a o e => ?_, fun a o e => ?_, fun a o e => ?_, F, R.sl⟩
  · by_cases q : OwnAt sc env a
    · obtain ⟨o₁, e₁⟩ := (R.own_free q).2
      obtain ⟨o₂, e₂, _, e₄⟩ := frame_own Pr q e₁
      rw [e] at e₂; cases e₂
      exact ⟨o₁, hk _ _ e₁, e₄⟩
    · rw [frame_other _ _ q] at e
      obtain ⟨o', e1, e2⟩ := R.prot a o e
      exact ⟨o', hk _ _ e1, e2⟩
  · obtain ⟨ob, e1, e2⟩ := R.trk a o e
    exact ⟨ob, hk _ _ e1, e2.mono (.of_keeps hk)⟩
  · rcases R.disj a o e with ⟨x, y⟩ | x
    · refine .inl ⟨x, ?_⟩
      rw [frame_other]; exact y
      intro n
      have := (R.own_free n).1.1
      have e' : σ.heap a = some o := e
      rw [e'] at this; cases this
    · exact .inr x

/-- a frame is left -/
theorem RS.leave (R : RS C sc Pr env σ s) (R' : RS C sc' (Pr.frame sc env s.heap) env' τ s') (i : Imm s.heap s'.heap) : RS C sc Pr env ⟨σ.loc, τ.heap⟩ s' := by
  have fr : ∀ a, OwnAt sc env a → Free C Pr τ.heap a := fun a n => by
    have F := (R.own_free n).1
    refine ⟨?_, F.2⟩
    cases q : τ.heap a with
    | none => rfl
    | some o =>
      rcases R'.disj a o q with ⟨_, y⟩ | ⟨_, y⟩
      · obtain ⟨o₁, e₁⟩ := (R.own_free n).2
        obtain ⟨o₂, e₂, _⟩ := frame_own Pr n e₁
        rw [e₂] at y; cases y
      · exact (y F.2.2).elim
  have at_ : ∀ a o, OwnAt sc env a → s.heap.get? a = some o → ∃ o', s'.heap.get? a = some o' ∧ o'.data = o.data := fun a o n e => by
    obtain ⟨o₂, e₂, e₃, _⟩ := frame_own Pr n e
    obtain ⟨o₃, e₄, e₅⟩ := R'.prot a o₂ e₂
    exact ⟨o₃, e₄, e₅.2.1.trans e₃⟩
  refine ⟨R'.same, R'.keep, fun a o e => R'.prot a o (frame_some R e), R'.trk, fun a o e => ?_, ⟨?_, fr _ (.inl rfl), fun x hx => ?_, fun x hx => ?_⟩, R'.sl⟩
  · rcases R'.disj a o e with ⟨x, y⟩ | x
    · exact .inl ⟨x, frame_none R y⟩
    · exact .inr x
  · obtain ⟨m, ⟨o, es, ep, e, d, r⟩, hm⟩ := R.fr.loc
    obtain ⟨o', e', d'⟩ := at_ _ _ (.inl rfl) e
    refine ⟨m, ⟨o', es, ep, e', d'.trans d, r⟩, fun x hx v hv => ?_⟩
    obtain ⟨v', a1, a2⟩ := hm x hx v hv
    exact ⟨v', a1, a2.mono i⟩
  · obtain ⟨c, v', a1, ⟨o, a2, a2'⟩, a3, a4⟩ := R.fr.own x hx
    have n : OwnAt sc env c := .inr ⟨x, hx, a1⟩
    obtain ⟨o', e', d'⟩ := at_ _ _ n a2
    exact ⟨c, v', a1, ⟨o', e', d'.trans a2'⟩, fr _ n, fun v hv => by obtain ⟨y, b1, b2⟩ := a4 v hv; exact ⟨y, b1, b2.mono i⟩⟩
  · obtain ⟨c, o, v', a1, a2, a3, a4⟩ := R.fr.ro x hx
    exact ⟨c, o, v', a1, a2, a3, fun v hv => by obtain ⟨y, b1, b2⟩ := a4 v hv; exact ⟨y, b1, b2.mono i⟩⟩

/-- an object that nobody had becomes a tracked one -/
theorem RS.adopt (R : RS C sc Pr env σ s) {a : Addr} {ob : Obj} {o : AO} (hn : ¬ Rel C sc Pr env σ a) (hg : s.heap.get? a = some ob) (ho : OR C s.heap ob o) (hs : ∀ c d l, o = .slots c d l → σ.heap d = some .sdict := by nofun) :
    RS C sc Pr env (σ.ins a o) s := by
  have nC : C.s₁.heap.get? a = none := by
    cases q : C.s₁.heap.get? a with
    | none => rfl
    | some o => exact (hn (.inl (by rw [q]; nofun))).elim
  have nP : Pr a = none := by
    cases q : Pr a with
    | none => rfl
    | some o => exact (hn (.inr (.inl (by rw [q]; nofun)))).elim
  have nS : σ.heap a = none := by
    cases q : σ.heap a with
    | none => rfl
    | some o => exact (hn (.inr (.inr (.inl (by rw [q]; nofun))))).elim
  have nL : env.locals ≠ a := fun e => hn (.inr (.inr (.inr (.inl e.symm))))
  have hd : ∀ d, σ.heap d = some .sdict → (σ.ins a o).heap d = some .sdict := fun d e => by
    have : d ≠ a := by rintro rfl; rw [nS] at e; cases e
    simp only [AS.ins, Hp.ins, if_neg this]; exact e
  refine ⟨R.same, R.keep, R.prot, fun b o' e => ?_, fun b o' e => ?_, ⟨R.fr.loc, R.fr.locF.ins nL, fun x hx => ?_, R.fr.ro⟩, fun b c d l e => ?_⟩
  · by_cases q : b = a
    · subst q
      simp only [AS.ins, Hp.ins, if_true] at e; cases e
      exact ⟨ob, hg, ho⟩
    · simp only [AS.ins, Hp.ins, if_neg q] at e; exact R.trk b o' e
  · by_cases q : b = a
    · subst q; exact .inl ⟨nC, nP⟩
    · simp only [AS.ins, Hp.ins, if_neg q] at e; exact R.disj b o' e
  · obtain ⟨c, v', a1, a2, a3, a4⟩ := R.fr.own x hx
    exact ⟨c, v', a1, a2, a3.ins (by rintro rfl; exact hn (.inr (.inr (.inr (.inr ⟨x, hx, a1⟩))))), a4⟩
  · by_cases q : b = a
    · subst q
      simp only [AS.ins, Hp.ins, if_true, Option.some.injEq] at e
      exact hd d (hs c d l e)
    · simp only [AS.ins, Hp.ins, if_neg q] at e; exact hd d (R.sl b c d l e)

theorem RS.nrel_prot {b : Addr} {ob : Obj} (R : RS C sc (Pr.add b ob) env σ s) (hC : C.s₁.heap.get? b = none) (hP : Pr b = none) : ¬ Rel C sc Pr env σ b := by
  have hb : (Pr.add b ob) b = some ob := by unfold Prt.add; rw [if_pos rfl]
  rintro (h | h | h | h | ⟨x, hx, h⟩)
  · exact h hC
  · exact h hP
  · cases q : σ.heap b with
    | none => exact h q
    | some o =>
      rcases R.disj _ _ q with ⟨_, y⟩ | ⟨_, y⟩
      · rw [hb] at y; cases y
      · exact y hC
  · subst h
    have := R.fr.locF.2.1
    rw [hb] at this; cases this
  · obtain ⟨c, v', a1, a2, a3, _⟩ := R.fr.own x hx
    rw [h] at a1; cases a1
    have := a3.2.1
    rw [hb] at this; cases this
end

/-- the cells that a comprehension takes over -/
def closL (env : Env) : List (Str × NameKind) → List (Str × Addr) → List (Str × Addr)
  | [], acc => acc
  | (n, k) :: r, acc => if k == .free then closL env r ((n, (env.cells.lookup n).getD 0) :: acc) else closL env r acc

theorem forIn_clos {env : Env} (f : Str × NameKind → List (Str × Addr) → Sem (ForInStep (List (Str × Addr))))
    (hf : ∀ n k cs, f (n, k) cs = if k == .free then (do let a ← cellOf env n; pure (.yield ((n, a) :: cs))) else pure (.yield cs)) :
    ∀ (names : List (Str × NameKind)) (acc : List (Str × Addr)), (∀ n, (n, NameKind.free) ∈ names → (env.cells.lookup n).isSome = true) → forIn names acc f = (pure (closL env names acc) : Sem _)
  | [], acc, _ => by rw [List.forIn_nil]; rfl
  | (n, k) :: r, acc, h => by
    rw [List.forIn_cons, hf]
    have ih := fun acc => forIn_clos f hf r acc fun n hn => h n (List.mem_cons_of_mem _ hn)
    unfold closL
    by_cases q : (k == .free) = true
    · rw [if_pos q, if_pos q]
      have hk : k = .free := by simpa using q
      subst hk
      obtain ⟨c, hc⟩ := Option.isSome_iff_exists.mp (h n (by simp))
      have : cellOf env n = pure c := by unfold cellOf; rw [hc]
      rw [this, hc]
      exact ih _
    · rw [if_neg q, if_neg q]
      exact ih _
theorem closureFor_eq {env : Env} {scope : Scope} (h : ∀ n, (n, NameKind.free) ∈ scope.names → (env.cells.lookup n).isSome = true) : closureFor scope env = pure (closL env scope.names []) := by
  have := forIn_clos (env := env) (fun x cs => match x with
    | (name, kind) => if (kind == NameKind.free) = true then do
        let a ← cellOf env name
        pure (ForInStep.yield ((name, a) :: cs)) else pure (ForInStep.yield cs)) (fun n k cs => rfl) scope.names [] h
  show (forIn scope.names [] _ >>= fun cs => pure cs) = _
  refine (congrArg (· >>= fun cs => pure cs) this).trans ?_
  rfl

theorem closL_lookup {env : Env} : ∀ (names : List (Str × NameKind)) (acc : List (Str × Addr)), (names.map (·.1)).Nodup → (∀ n, (n, NameKind.free) ∈ names → (env.cells.lookup n).isSome = true) → ∀ x,
    ((x, NameKind.free) ∈ names → (closL env names acc).lookup x = env.cells.lookup x) ∧ ((x, NameKind.free) ∉ names → (closL env names acc).lookup x = acc.lookup x)
  | [], acc, _, _, x => by simp [closL]
  | (n, k) :: r, acc, hn, h, x => by
    rw [List.map_cons, List.nodup_cons] at hn
    have ih := fun acc => closL_lookup r acc hn.2 (fun n hn => h n (List.mem_cons_of_mem _ hn)) x
    unfold closL
    by_cases q : (k == .free) = true
    · rw [if_pos q]
      have hk : k = .free := by simpa using q
      subst hk
      obtain ⟨c, hc⟩ := Option.isSome_iff_exists.mp (h n (by simp))
      have ih := ih ((n, (env.cells.lookup n).getD 0) :: acc)
      constructor
      · intro hx
        rcases List.mem_cons.mp hx with e | hx
        · cases e
          rw [ih.2 (fun hm => hn.1 (List.mem_map.mpr ⟨_, hm, rfl⟩))]
          simp [hc]
        · exact ih.1 hx
      · intro hx
        have hne : (x == n) = false := by rw [beq_eq_false_iff_ne]; rintro rfl; exact hx (by simp)
        rw [ih.2 (fun hm => hx (List.mem_cons_of_mem _ hm)), List.lookup_cons, hne]
    · rw [if_neg q]
      have hk : k ≠ .free := by simpa using q
      have ih := ih acc
      constructor
      · intro hx
        rcases List.mem_cons.mp hx with e | hx
        · cases e; exact (hk rfl).elim
        · exact ih.1 hx
      · intro hx; exact ih.2 (fun hm => hx (List.mem_cons_of_mem _ hm))

/-- new cells -/
theorem cells_new : ∀ (names : List (Str × NameKind)) (h : Heap) (acc : List (Str × Addr)), (names.map (·.1)).Nodup → ∀ x,
    ((x, NameKind.cell) ∈ names → ∃ c, (cellsFrom h.objs.size names acc).lookup x = some c ∧ h.objs.size ≤ c ∧ (pushCells h names).get? c = some { cls := .type "cell", data := .cell none }) ∧
    ((x, NameKind.cell) ∉ names → (cellsFrom h.objs.size names acc).lookup x = acc.lookup x)
  | [], h, acc, _, x => by simp [cellsFrom]
  | (n, k) :: r, h, acc, hn, x => by
    rw [List.map_cons, List.nodup_cons] at hn
    unfold cellsFrom pushCells
    by_cases q : (k == .cell) = true
    · rw [if_pos q]
      simp only [if_pos q]
      have hk : k = .cell := by simpa using q
      subst hk
      have ih := cells_new r (h.push { cls := .type "cell", data := .cell none }) ((n, h.objs.size) :: acc) hn.2 x
      rw [Heap.size_push] at ih
      constructor
      · intro hx
        rcases List.mem_cons.mp hx with e | hx
        · cases e
          refine ⟨h.objs.size, ?_, Nat.le_refl _, ?_⟩
          · rw [ih.2 (fun hm => hn.1 (List.mem_map.mpr ⟨_, hm, rfl⟩))]; simp
          · exact pushCells_keeps _ _ _ _ (Heap.get?_push_size _ rfl)
        · obtain ⟨c, c1, c2, c3⟩ := ih.1 hx
          exact ⟨c, c1, by omega, c3⟩
      · intro hx
        have hne : (x == n) = false := by rw [beq_eq_false_iff_ne]; rintro rfl; exact hx (by simp)
        rw [ih.2 (fun hm => hx (List.mem_cons_of_mem _ hm)), List.lookup_cons, hne]
    · rw [if_neg q]
      simp only [if_neg q]
      have hk : k ≠ .cell := by simpa using q
      have ih := cells_new r h acc hn.2 x
      constructor
      · intro hx
        rcases List.mem_cons.mp hx with e | hx
        · cases e; exact (hk rfl).elim
        · exact ih.1 hx
      · intro hx; exact ih.2 (fun hm => hx (List.mem_cons_of_mem _ hm))

theorem cells_inj : ∀ (names : List (Str × NameKind)) (h : Heap) (acc : List (Str × Addr)), (names.map (·.1)).Nodup → (∀ x ∈ names, x.2 = .cell → acc.lookup x.1 = none) → (∀ x c, acc.lookup x = some c → c < h.objs.size) →
    (∀ x y c, acc.lookup x = some c → acc.lookup y = some c → x = y) → ∀ x y c, (cellsFrom h.objs.size names acc).lookup x = some c → (cellsFrom h.objs.size names acc).lookup y = some c → x = y
  | [], h, acc, _, _, _, hi, x, y, c => hi x y c
  | (n, k) :: r, h, acc, hn, h0, hl, hi, x, y, c => by
    rw [List.map_cons, List.nodup_cons] at hn
    unfold cellsFrom
    by_cases q : (k == .cell) = true
    · rw [if_pos q]
      have ih := cells_inj r (h.push { cls := .type "cell", data := .cell none }) ((n, h.objs.size) :: acc) hn.2
      rw [Heap.size_push] at ih
      refine ih (fun z hz hc => ?_) (fun z c e => ?_) (fun z u c e1 e2 => ?_) x y c
      · have : (z.1 == n) = false := by rw [beq_eq_false_iff_ne]; rintro e; exact hn.1 (List.mem_map.mpr ⟨z, hz, e⟩)
        rw [List.lookup_cons, this]; exact h0 z (List.mem_cons_of_mem _ hz) hc
      · rw [List.lookup_cons] at e
        by_cases hz : (z == n) = true
        · rw [hz] at e; cases e; exact Nat.lt_succ_self _
        · rw [Bool.not_eq_true] at hz; rw [hz] at e; exact Nat.lt_succ_of_lt (hl z c e)
      · rw [List.lookup_cons] at e1 e2
        by_cases hz : (z == n) = true <;> by_cases hu : (u == n) = true
        · rw [eq_of_beq hz, eq_of_beq hu]
        · rw [Bool.not_eq_true] at hu; rw [hz] at e1; rw [hu] at e2; cases e1; exact absurd (hl _ _ e2) (Nat.lt_irrefl _)
        · rw [Bool.not_eq_true] at hz; rw [hz] at e1; rw [hu] at e2; cases e2; exact absurd (hl _ _ e1) (Nat.lt_irrefl _)
        · rw [Bool.not_eq_true] at hz hu; rw [hz] at e1; rw [hu] at e2; exact hi _ _ _ e1 e2
    · rw [if_neg q]
      exact cells_inj r h acc hn.2 (fun z hz => h0 z (List.mem_cons_of_mem _ hz)) hl hi x y c
end Mine

end

section
open PySem PySem.W PyProof.Rows PySem.Calls
set_option Elab.async false
set_option backward.match.sparseCases false
set_option maxRecDepth 100000
namespace Mine

def All2 {α β : Type} (P : α → β → Prop) : List α → List β → Prop
  | [], [] => True
  | a :: as, b :: bs => P a b ∧ All2 P as bs
  | _, _ => False

section
variable {C : Cx} {cyc : Addr} {K : Frag} {T : Tb} {Γ : GT} {d : Nat} {ct : CT} {sc : Sc}

theorem PU.from {Pr : Prt} {env : Env} {h h' : Heap} {P : AS → Prop} (i : Imm h h') {u : Unit} {s : Shared} (x : PU C sc Pr env h' P u s) : PU C sc Pr env h P u s :=
  let ⟨b, d, e, f⟩ := x; ⟨b, d, i.trans e, f⟩

/-- names that are stored one after the other -/
theorem each_sound (B : Base C cyc K T Γ d ct) {Pr : Prt} {env : Env} {A : Around} {E : Value → Shared → Prop} (O : EnvOk sc env) (es : List Expr) : ∀ (xs : List String) (vs : List AV) (us : List Value) (σ : AS) (s : Shared) (P : AS → Prop),
    es.mapM (keptE Γ sc) = some xs → vs.length = xs.length → VRs s.heap vs us → RS C sc Pr env σ s → P (σ.setAll xs vs) →
    wpAny (model C.prog C.w) A (assignInOrder ((assignEach es env).map (·.2)) us) (PU C sc Pr env s.heap P) E s := by
  induction es with
  | nil =>
    intro xs vs us σ s P h hl hv R hp
    cases h
    cases vs with
    | nil => exact assignInOrder_nil ⟨σ, R, .refl _, hp⟩
    | cons => cases hl
  | cons e es ih =>
    intro xs vs us σ s P h hl hv R hp
    obtain ⟨y, ys, h₁, h₂, rfl⟩ := mapM_cons_some h
    obtain ⟨x, p, rfl, hk⟩ := kept_name h₁
    cases vs with
    | nil => cases hl
    | cons v vs =>
    obtain ⟨u, us, rfl, hu, hv⟩ := hv.cons_inv
    obtain ⟨rfl, hin⟩ := kept_of B hk
    show wpAny _ _ (assignInOrder (assign (.Name (Str.ofString y) p) env :: (assignEach es env).map (·.2)) (u :: us)) _ _ _
    refine assignInOrder_cons (wpAny_assign_Name (wpAny_mono (R.storeN O hin hu (P := fun τ => τ = σ.set y v) rfl) (fun _ s₁ zz => ?_) fun _ _ e => e))
    obtain ⟨σ₁, R1, i1, q⟩ := zz
    subst q
    exact wpAny_mono (ih ys vs us _ s₁ P h₂ (Nat.succ.inj hl) (hv.mono i1) R1 hp) (fun _ _ x => x.from i1) fun _ _ e => e

theorem each_len {Γ : GT} {sc : Sc} {env : Env} {es : List Expr} : ∀ {xs : List String}, es.mapM (keptE Γ sc) = some xs → (assignEach es env).length = xs.length ∧ (assignEach es env).findIdx? (·.1) = none := by
  induction es with
  | nil => intro xs h; cases h; exact ⟨rfl, rfl⟩
  | cons e es ih =>
    intro xs h
    obtain ⟨y, ys, h₁, h₂, rfl⟩ := mapM_cons_some h
    obtain ⟨x, p, rfl, hk⟩ := kept_name h₁
    obtain ⟨l₁, l₂⟩ := ih h₂
    have e : assignEach (.Name x p :: es) env = (false, assign (.Name x p) env) :: assignEach es env := rfl
    rw [e]
    exact ⟨congrArg Nat.succ l₁, by rw [List.findIdx?_cons, l₂]; rfl⟩

/-- the target of a loop -/
theorem tgt_sound (B : Base C cyc K T Γ d ct) {Pr : Prt} {env : Env} {A : Around} {E : Value → Shared → Prop} {σ : AS} {s : Shared} {t : Expr} {mt : MT} {av : AV} {v : Value} {P : AS → Prop} (hh : A.handled = none) (O : EnvOk sc env) (ht : cT Γ sc t = some mt)
    (R : RS C sc Pr env σ s) (hv : VR s.heap av v) (h : bindT mt av P σ) : wpAny (model C.prog C.w) A (assign t env v) (PU C sc Pr env s.heap P) E s := by
  cases t with
  | Name x p =>
    obtain ⟨y, hy, rfl⟩ := Option.map_eq_some_iff.mp (show (Γ.kept sc x).map MT.name = some mt from ht)
    obtain ⟨rfl, hin⟩ := kept_of B hy
    exact wpAny_assign_Name (R.storeN O hin hv h)
  | Tuple es k p =>
    obtain ⟨xs, rfl, hx, _⟩ := cT_tup ht
    obtain ⟨vs, rfl, hl, h⟩ := h
    obtain ⟨a, us, rfl, htp, hvs⟩ := hv.tup_inv
    obtain ⟨h1, h2⟩ := each_len (env := env) hx
    refine wpAny_assign_Tuple hh htp.tuple (by rw [h1, ← hl, List.size_toArray]; exact hvs.length.symm) h2 fun h' he => ?_
    have hk : ∀ b o, s.heap.get? b = some o → h'.get? b = some o := fun b o e => he b o (Nat.ne_of_lt (Heap.lt_size e)) e
    exact wpAny_mono (each_sound B O es xs vs _ σ _ P hx hl (hvs.mono (.of_keeps hk)) (R.keeps hk) h) (fun _ _ x => x.from (.of_keeps hk)) fun _ _ e => e
  | _ => cases ht

/-- the tests of a clause -/
theorem tests_sound {Pr : Prt} {env : Env} {A : Around} {E : Value → Shared → Prop} (O : EnvOk sc env) (OA : OkA (d + 1) A) (FA : FS C A Pr env.locals) : ∀ (es : List Expr) (ms : List MC) (Q : Bool → AS → Prop) (σ : AS) (s : Shared), All2 (SndC C T d ct sc) es ms →
    RS C sc Pr env σ s → condsW T ct ms Q σ →
    wpAny (model C.prog C.w) A (forIn es true fun c r => if r = true then do let ok ← isTrue c env (eval c env); pure (ForInStep.yield ok) else pure (ForInStep.yield r)) (PB C sc Pr env s.heap Q) E s := by
  intro es
  induction es with
  | nil =>
    intro ms Q σ s ha R h
    cases ms with
    | nil => exact wpAny_pure (PB.pure' R h)
    | cons => exact ha.elim
  | cons e es ih =>
    intro ms Q σ s ha R h
    cases ms with
    | nil => exact ha.elim
    | cons m ms =>
      obtain ⟨h1, h2⟩ := ha
      rw [List.forIn_cons]
      simp only [if_true]
      refine wpAny_bind (wpAny_bind (wpAny_mono (h1 _ _ _ _ _ E _ O OA FA R h) (fun b s₁ ⟨σ₁, R1, i1, q⟩ => wpAny_pure ?_) fun _ _ e => e))
      cases b
      · have go : ∀ es : List Expr, wpAny (model C.prog C.w) A (forIn es false fun c r => if r = true then do let ok ← isTrue c env (eval c env); pure (ForInStep.yield ok) else pure (ForInStep.yield r)) (PB C sc Pr env s.heap Q) E s₁ := by
          intro es
          induction es with
          | nil => exact wpAny_pure ⟨σ₁, R1, i1, q⟩
          | cons e es ih => rw [List.forIn_cons]; exact wpAny_bind (wpAny_pure ih)
        exact go es
      · exact wpAny_mono (ih ms Q σ₁ s₁ h2 R1 q) (fun _ _ x => x.from i1) fun _ _ e => e

theorem conds_of {es : List Expr} {ms : List MC} (h : All2 (SndC C T d ct sc) es ms) : SndCs C T d ct sc es ms := by
  induction es generalizing ms with
  | nil => cases ms with
    | nil => exact snd_cs_nil
    | cons => exact h.elim
  | cons e es ih => cases ms with
    | nil => exact h.elim
    | cons m ms => exact snd_cs_cons h.1 (ih h.2)

/-- what a turn does behind its tests -/
def compBody (e : Expr) (gens : List Comprehension) (dep : Nat) (acc : Value) (env : Env) (elt : Expr) : Sem Unit :=
  match gens[dep + 1]? with
  | some g' => do
    let x ← eval g'.iter env
    standAt g'.iter.pos
    let x ← foldedSetIterable g'.iter env x
    let it ← holding [x] (pyIter x)
    let _ ← runOwn (.compStart e (dep + 1) it acc env) env
  | none => do let x ← eval elt env; let _ ← call (.builtin "list.append") [acc, x]

theorem turn_wp {M : Model} {A : Around} {E : Value → Shared → Prop} {s : Shared} {Q : PySem.Fin → Shared → Prop} {elt : Expr} {gens : List Comprehension} {scope : Scope} {pos : Pos} {dep : Nat} {it acc : Value} {env : Env} {t itx : Expr} {ifs : List Expr}
    (hg : gens[dep]? = some ⟨t, itx, ifs, 0⟩) (hn : ∀ g', gens[dep + 1]? = some g' → g'.is_async = 0)
    (h : wpAny M A (pyNext it) (fun r s₁ => match r with
      | none => Q (.done .next) s₁
      | some v => wpAny M A (letOwnedTupleGo t it v) (fun _ s₂ => wpAny M A (assign t env v) (fun _ s₃ =>
          wpAny M A (forIn ifs true fun c r => if r = true then do let ok ← isTrue c env (eval c env); pure (ForInStep.yield ok) else pure (ForInStep.yield r)) (fun ok s₄ =>
            if ok = true then wpAny M A (compBody (.ListComp elt gens scope pos) gens dep acc env elt) (fun _ s₅ => Q (.again (.compLoop (.ListComp elt gens scope pos) dep it acc env)) s₅) E s₄
            else Q (.again (.compLoop (.ListComp elt gens scope pos) dep it acc env)) s₄) E s₃) E s₂) E s₁) E s) :
    wpAny M A (compTurn (.ListComp elt gens scope pos) dep it acc env) Q E s := by
  unfold compTurn
  simp only [hg]
  refine wpAny_bind (wpAny_standAt ?_)
  rw [if_neg (by decide)]
  refine wpAny_bind (wpAny_mono h (fun r s₁ h₁ => ?_) fun _ _ e => e)
  cases r with
  | none => exact wpAny_pure h₁
  | some v =>
    refine wpAny_bind (wpAny_mono h₁ (fun _ s₂ h₂ => wpAny_bind (wpAny_mono h₂ (fun _ s₃ h₃ => wpAny_bind (wpAny_mono h₃ (fun ok s₄ h₄ => ?_) fun _ _ e => e)) fun _ _ e => e)) fun _ _ e => e)
    cases ok with
    | false => exact wpAny_pure h₄
    | true =>
      simp only [if_true] at h₄ ⊢
      unfold compBody at h₄
      cases hq : gens[dep + 1]? with
      | none =>
        simp only [hq] at h₄
        have h₅ : wpAny M A (do let x ← eval elt env; let _ ← call (.builtin "list.append") [acc, x]; pure ()) (fun _ s₅ => Q (.again (.compLoop (.ListComp elt gens scope pos) dep it acc env)) s₅) E s₄ := h₄
        exact wpAny_bind (wpAny_mono h₅ (fun _ s₅ h₅ => wpAny_pure h₅) fun _ _ e => e)
      | some g' =>
        have h0 := hn g' hq
        obtain ⟨tt, ii, ff, aa⟩ := g'
        simp only at h0
        subst h0
        simp only [hq] at h₄
        show wpAny M A (eval ii env >>= fun x => standAt ii.pos >>= fun _ => foldedSetIterable ii env x >>= fun x => holding [x] (pyIter x) >>= fun it' => runOwn (.compStart (.ListComp elt gens scope pos) (dep + 1) it' acc env) env >>= fun _ => again (.compLoop (.ListComp elt gens scope pos) dep it acc env)) Q E s₄
        have h₅ : wpAny M A ((eval ii env >>= fun x => standAt ii.pos >>= fun _ => foldedSetIterable ii env x >>= fun x => holding [x] (pyIter x) >>= fun it' => runOwn (.compStart (.ListComp elt gens scope pos) (dep + 1) it' acc env) env >>= fun _ => pure ())) (fun _ s₅ => Q (.again (.compLoop (.ListComp elt gens scope pos) dep it acc env)) s₅) E s₄ := h₄
        have h₆ := wpAny_bind (f := fun _ => again (.compLoop (.ListComp elt gens scope pos) dep it acc env)) (wpAny_mono h₅ (fun _ s₅ h₅ => wpAny_pure h₅) fun _ _ e => e)
        simpa only [bind_assoc, pure_bind] using h₆
end
end Mine

end

section
open PySem PySem.W PyProof.Rows PySem.Calls
set_option Elab.async false
set_option backward.match.sparseCases false
set_option maxRecDepth 100000
namespace Mine

abbrev listO (vs : Array Value) (n : Nat) : Obj := { cls := .type "list", data := .seq vs n }

theorem add_comm {Pr : Prt} {a b : Addr} {x y : Obj} (h : a ≠ b) : (Pr.add a x).add b y = (Pr.add b y).add a x := by
  funext c
  unfold Prt.add
  by_cases h1 : c = a
  · subst h1; rw [if_neg h, if_pos rfl, if_pos rfl]
  · rw [if_neg h1, if_neg h1]
theorem add_at {Pr : Prt} {a : Addr} {x : Obj} : Pr.add a x a = some x := by unfold Prt.add; rw [if_pos rfl]
theorem add_ne {Pr : Prt} {a b : Addr} {x : Obj} (h : b ≠ a) : Pr.add a x b = Pr b := by unfold Prt.add; rw [if_neg h]

theorem fold_none {e : Expr} (h : notSet e = true) (env : Env) (x : Value) : foldedSetIterable e env x = pure x := by
  unfold foldedSetIterable
  cases e <;> first | rfl | cases h

set_option backward.match.sparseCases true in
theorem own_go {M : Model} {A : Around} {E : Value → Shared → Prop} {s : Shared} {t : Expr} {it : Addr} {v : Value} {o : Obj} {T : String} {vs : Array Value} {Q : Unit → Shared → Prop} (ho : s.heap.get? it = some o) (hT : T ∈ iterNames) (hc : o.cls = .type T) (hd : o.data = .fields vs)
    (h : Q () s) : wpAny M A (letOwnedTupleGo t (.ref it) v) Q E s := by
  have key : wpAny M A (do
      let (.ref r, .ref a) := (Value.ref it, v) | return
      let o ← load r
      match o.cls, o.data with
      | .type n, .fields vs =>
        if ["enumerate", "zip", "dict_itemiterator", "dict_reverseitemiterator", "odict_iterator", "itertools.zip_longest", "itertools.pairwise"].contains n && vs[0]? == some (rawInt a) then
          rule "for.unpacks-the-owned-tuple"
          updateField r 0 .none
      | _, _ => pure ()) Q E s := by
    cases v with
    | ref a =>
      refine wpAny_bind (wpAny_load ho ?_)
      rw [hc, hd]
      have : ["enumerate", "zip", "dict_itemiterator", "dict_reverseitemiterator", "odict_iterator", "itertools.zip_longest", "itertools.pairwise"].contains T = false := by
        simp only [iterNames, List.mem_cons, List.not_mem_nil, or_false] at hT
        rcases hT with rfl | rfl | rfl | rfl | rfl <;> decide
      dsimp only
      rw [this]
      exact wpAny_pure h
    | _ => exact wpAny_pure h
  unfold letOwnedTupleGo
  cases t <;> first | exact key | exact wpAny_pure h

theorem start_wp {prog : Program} {w : World} {A : Around} {R : Result → Shared → Prop} {s : Shared} {elt : Expr} {gens : List Comprehension} {scope : Scope} {pos : Pos} {dep : Nat} {it acc : Value} {env : Env} {t itx : Expr} {ifs : List Expr}
    (hg : gens[dep]? = some ⟨t, itx, ifs, 0⟩)
    (h0 : codeAny (model prog w) A (.compLoop (.ListComp elt gens scope pos) dep it acc env) R s)
    (h : wpAny (model prog w) A (pyIter it) (fun it' s' => it' = it ∧ s' = s) (notedBy (model prog w) A env fun x s' => R (.error x) s') s) :
    codeAny (model prog w) A (.compStart (.ListComp elt gens scope pos) dep it acc env) R s := by
  have hcl : (clausesOf (.ListComp elt gens scope pos))[dep]? = some ⟨t, itx, ifs, 0⟩ := hg
  refine codeAny_of_tree ?_
  show wpAny _ _ ((compStart (.ListComp elt gens scope pos) dep it acc env).onRaise (fun x => do noteFrame x env; standAt theWindowsPlace)) _ _ s
  refine wpAny_notedAt ?_
  unfold compStart
  rw [hcl]
  show wpAny _ _ (ask >>= _) _ _ s
  refine wpAny_bind (wpAny_askSetting (wpAny_ite ?_))
  split
  · exact wpAny_pure (And.intro rfl h0)
  · refine wpAny_bind (wpAny_rule ?_)
    show wpAny _ _ (standAt itx.pos >>= _) _ _ s
    refine wpAny_bind (wpAny_standAt (wpAny_bind (wpAny_mono h (fun it' s' h' => ?_) fun _ _ x => x)))
    obtain ⟨rfl, rfl⟩ := h'
    exact wpAny_pure (And.intro rfl h0)

section
variable {C : Cx} {cyc : Addr} {K : Frag} {T : Tb} {Γ : GT} {d : Nat} {ct : CT} {sc : Sc}

def GenSnd (C : Cx) (Γ : GT) (T : Tb) (d : Nat) (ct : CT) (sc : Sc) : List Comprehension → List MG → Prop
  | [], [] => True
  | ⟨t, it, ifs, a⟩ :: r, .mk mt mit mifs :: mr => a = 0 ∧ cT Γ sc t = some mt ∧ SndE C T d ct sc it mit ∧ All2 (SndC C T d ct sc) ifs mifs ∧ notSet it = true ∧ GenSnd C Γ T d ct sc r mr
  | _, _ => False

/-- how a round of a comprehension ends -/
def CP (C : Cx) (sc : Sc) (accA : Addr) (cenv : Env) (P : Prt) (h : Heap) (K : LK) (s' : Shared) : Prop :=
  ∃ acc vs n τ, RS C sc (P.add accA (listO vs n)) cenv τ s' ∧ VRs s'.heap acc vs.toList ∧ Imm h s'.heap ∧ K acc τ

def BodySnd (C : Cx) (T : Tb) (ct : CT) (sc : Sc) (accA : Addr) (cenv : Env) (A : Around) (e elt : Expr) (gens : List Comprehension) (dep : Nat) (gs : List MG) (fin : List AV → LK → AS → Prop) : Prop :=
  ∀ (P : Prt) (τ : AS) (s : Shared) (acc : List AV) (vs : Array Value) (n : Nat) (K : LK) (E : Value → Shared → Prop), P accA = none → FS C A P cenv.locals → RS C sc (P.add accA (listO vs n)) cenv τ s → VRs s.heap acc vs.toList → compW T ct gs fin acc K τ →
    wpAny (model C.prog C.w) A (compBody e gens dep (.ref accA) cenv elt) (fun _ s' => CP C sc accA cenv P s.heap K s') E s

theorem RS.re {P : Prt} {cenv : Env} {τ : AS} {s : Shared} {b : Addr} {o : Obj} (R : RS C sc (P.add b o) cenv τ s) (hC : C.s₁.heap.get? b = none) (hP : P b = none) (hro : ∀ x ∈ sc.ro, ∃ c o, cenv.cells.lookup (Str.ofString x) = some c ∧ P c = some o)
    {h' : Heap} {t : Tok} (hx : Heap.ExtBut b s.heap h') (hi : ¬ Obj.imm o) (hf : o.cls ≠ .type "frame") : RS C sc P cenv τ { s with heap := h', toks := t } ∧ Imm s.heap h' ∧ ∀ o', h'.get? b = some o' → RS C sc (P.add b o') cenv τ { s with heap := h', toks := t } := by
  obtain ⟨o', e1, e2⟩ := R.prot b o add_at
  have e3 := e2.eq hf
  subst e3
  have hn := R.nrel_prot hC hP
  have R1 := (R.unprot hP hro).ext1 (t := t) hx hn (fun o e => by rw [e1] at e; cases e; exact hi)
  exact ⟨R1, imm_extBut e1 hi hx, fun o' e => R1.prot1 hn e⟩

theorem ro_sub {P P' : Prt} {cenv : Env} (h : ∀ a o, P a = some o → P' a = some o) (hro : ∀ x ∈ sc.ro, ∃ c o, cenv.cells.lookup (Str.ofString x) = some c ∧ P c = some o) : ∀ x ∈ sc.ro, ∃ c o, cenv.cells.lookup (Str.ofString x) = some c ∧ P' c = some o :=
  fun x hx => let ⟨c, o, a, b⟩ := hro x hx; ⟨c, o, a, h _ _ b⟩

theorem listO_not_imm (vs : Array Value) (n : Nat) : ¬ Obj.imm (listO vs n) := by
  rintro (⟨i, _⟩ | ⟨i | i, _⟩) <;> simp at i

theorem add_sub {P : Prt} {b : Addr} {ob : Obj} (hb : P b = none) : ∀ a o, P a = some o → P.add b ob a = some o := fun a o e => by
  rw [add_ne]; exact e
  rintro rfl; rw [hb] at e; cases e

/-- a turn of a clause -/
def stepC (T : Tb) (ct : CT) (mt : MT) (mifs : List MC) (gs : List MG) (fin : List AV → LK → AS → Prop) : AV → List AV → LK → AS → Prop :=
  fun v acc k τ => bindT mt v (fun τ₁ => condsW T ct mifs (fun b τ₂ => if b then compW T ct gs fin acc k τ₂ else k acc τ₂) τ₁) τ
/-- between the turns of a clause -/
structure LoopI (C : Cx) (sc : Sc) (P : Prt) (cenv : Env) (accA it : Addr) (items : List AV) (It : Nat → Obj → Prop) (h : Heap) (W : List AV → List AV → AS → Prop) (k : Nat) (s' : Shared) (i : Nat) (o : Obj) (τ : AS) (acc : List AV) (vs : Array Value) (m : Nat) : Prop where
  hk : k = items.length - i
  hle : i ≤ items.length
  R1 : RS C sc ((P.add it o).add accA (listO vs m)) cenv τ s'
  hI : It i o
  hv : VRs s'.heap acc vs.toList
  hi : Imm h s'.heap
  hw : W (items.drop i) acc τ

theorem loop_sound (B : Base C cyc K T Γ d ct) {A : Around} {cenv : Env} (O : EnvOk sc cenv) (OA : OkA (d + 1) A) {accA : Addr} (hCa : C.s₁.heap.get? accA = none) {elt : Expr} {gens : List Comprehension} {scope : Scope} {pos : Pos} {dep : Nat} {t itx : Expr} {ifs : List Expr} {mt : MT} {mifs : List MC} {gs : List MG} {fin : List AV → LK → AS → Prop}
    (hg : gens[dep]? = some ⟨t, itx, ifs, 0⟩) (hn : ∀ g', gens[dep + 1]? = some g' → g'.is_async = 0) (ht : cT Γ sc t = some mt) (hifs : All2 (SndC C T d ct sc) ifs mifs)
    (hb : BodySnd C T ct sc accA cenv A (.ListComp elt gens scope pos) elt gens dep gs fin)
    {P : Prt} {τ : AS} {s : Shared} {acc : List AV} {vs : Array Value} {n : Nat} {Kk : LK} {it : Addr} {items : List AV} {chk : AS → Prop} {It : Nat → Obj → Prop} {o : Obj} {h₀ : Heap} {R : Result → Shared → Prop}
    (W : Wk C it items chk It h₀) (hPa : P accA = none) (hPi : P it = none) (hCi : C.s₁.heap.get? it = none) (hne : it ≠ accA) (FA : FS C A P cenv.locals) (hro : ∀ x ∈ sc.ro, ∃ c o, cenv.cells.lookup (Str.ofString x) = some c ∧ P c = some o)
    (R0 : RS C sc ((P.add it o).add accA (listO vs n)) cenv τ s) (hI : It 0 o) (hv : VRs s.heap acc vs.toList) (hi0 : Imm h₀ s.heap)
    (hw : loopW chk (fun v acc k τ => bindT mt v (fun τ₁ => condsW T ct mifs (fun b τ₂ => if b then compW T ct gs fin acc k τ₂ else k acc τ₂) τ₁) τ) items acc Kk τ)
    (hR : ∀ s', CP C sc accA cenv P s.heap Kk s' → R (.ok .next) s') :
    codeAny (model C.prog C.w) A (.compLoop (.ListComp elt gens scope pos) dep (.ref it) (.ref accA) cenv) R s := by
  have hh := OA.handled
  refine codeAny_loop rfl (fun k s' => ∃ i o τ acc vs m, LoopI C sc P cenv accA it items It s.heap (fun l acc τ => loopW chk (stepC T ct mt mifs gs fin) l acc Kk τ) k s' i o τ acc vs m) (fun k s' hI => ?_) items.length
    ⟨0, o, τ, acc, vs, n, rfl, Nat.zero_le _, R0, hI, hv, .refl _, hw⟩
  show wpAny _ A ((compTurn (.ListComp elt gens scope pos) dep (.ref it) (.ref accA) cenv).onRaise (fun x => do noteFrame x cenv; theTreesLotGoes x)) _ _ s'
  refine wpAny_noted ?_
  obtain ⟨i, o, τ, acc, vs, m, hk, hle, R1, hI, hv, hi, hw⟩ := hI
  refine turn_wp hg hn ?_
  obtain ⟨T0, fs, hT0, hc0, hd0⟩ := W.kind i o hI
  have hfr : o.cls ≠ .type "frame" := by
    rw [hc0]; rintro e; cases e
    simp [iterNames] at hT0
  have him := iter_not_imm hT0 hc0 hd0
  have R1' : RS C sc ((P.add accA (listO vs m)).add it o) cenv τ s' := by rw [add_comm (Ne.symm hne)]; exact R1
  have hPi' : (P.add accA (listO vs m)) it = none := by rw [add_ne hne]; exact hPi
  have hro' := ro_sub (P' := P.add accA (listO vs m)) (add_sub hPa) hro
  have ho : s'.heap.get? it = some o := by
    obtain ⟨o', e1, e2⟩ := R1'.prot it o add_at
    have := e2.eq hfr
    subst this; exact e1
  have hnt : τ.heap it = none := by
    cases q : τ.heap it with
    | none => rfl
    | some o' => exact (R1'.nrel_prot hCi hPi' (.inr (.inr (.inl (by rw [q]; nofun))))).elim
  cases hit : items[i]? with
  | none =>
    have hlen : i = items.length := by have := List.getElem?_eq_none_iff.mp hit; omega
    rw [List.drop_of_length_le (by omega)] at hw
    refine W.done i A sc _ cenv τ s' _ _ o hh R1' (hi0.trans hi) hw.1 ho hI hlen fun h' tk hx => ?_
    obtain ⟨R2, i2, _⟩ := R1'.re hCi hPi' hro' (t := tk) hx him hfr
    exact hR _ ⟨acc, vs, m, τ, R2, hv.mono i2, hi.trans i2, hw.2⟩
  | some x =>
    have hlt : i < items.length := (List.getElem?_eq_some_iff.mp hit).1
    have hdr : items.drop i = x :: items.drop (i + 1) := by
      rw [List.drop_eq_getElem_cons hlt]; congr 1
      exact (List.getElem?_eq_some_iff.mp hit).2
    rw [hdr] at hw
    obtain ⟨hc, hw⟩ := hw
    refine W.item i x A sc _ cenv τ s' _ _ o hh R1' (hi0.trans hi) hc ho hI hnt hit fun v h' tk o' hvx hx ho' hI' => ?_
    obtain ⟨_, i2, R2⟩ := R1'.re hCi hPi' hro' (t := tk) hx him hfr
    have R2 := R2 o' ho'
    obtain ⟨T1, fs1, hT1, hc1, hd1⟩ := W.kind (i + 1) o' hI'
    refine own_go (o := o') ho' hT1 hc1 hd1 ?_
    have R3 : RS C sc ((P.add it o').add accA (listO vs m)) cenv τ { s' with heap := h', toks := tk } := by rw [add_comm hne]; exact R2
    have FA1 : FS C A (P.add it o') cenv.locals := FA.add o' hPi
    have hPa1 : (P.add it o') accA = none := by rw [add_ne (Ne.symm hne)]; exact hPa
    have FA2 : FS C A ((P.add it o').add accA (listO vs m)) cenv.locals := FA1.add _ hPa1
    refine wpAny_mono (tgt_sound B hh O ht R3 hvx hw) (fun _ s₂ zz => ?_) fun _ _ e => e
    obtain ⟨τ₁, R4, i4, hw⟩ := zz
    refine wpAny_mono (tests_sound O OA FA2 ifs mifs _ τ₁ s₂ hifs R4 hw) (fun ok s₃ zz => ?_) fun _ _ e => e
    obtain ⟨τ₂, R5, i5, hw⟩ := zz
    have hv3 : VRs s₃.heap acc vs.toList := ((hv.mono i2).mono i4).mono i5
    cases ok with
    | false =>
      exact ⟨rfl, items.length - (i + 1), by omega, i + 1, o', τ₂, acc, vs, m, rfl, by omega, R5, hI', hv3, hi.trans (i2.trans (i4.trans i5)), hw⟩
    | true =>
      rw [if_pos rfl]
      refine wpAny_mono (hb (P.add it o') τ₂ s₃ acc vs m _ _ hPa1 FA1 R5 hv3 hw) (fun _ s₄ zz => ?_) fun _ _ e => e
      obtain ⟨acc', vs', m', τ₃, R6, hv4, i6, hw⟩ := zz
      exact ⟨rfl, items.length - (i + 1), by omega, i + 1, o', τ₃, acc', vs', m', rfl, by omega, R6, hI', hv4, hi.trans (i2.trans (i4.trans (i5.trans i6))), hw⟩


theorem append_at {A : Around} {E : Value → Shared → Prop} {s : Shared} {a : Addr} {vs : Array Value} {n : Nat} {x : Value} {Q : Value → Shared → Prop} (hl : s.heap.get? a = some (listO vs n)) (hz : vs.size ≤ sizeLine)
    (h : ∀ h' m, h'.get? a = some (listO (vs.push x) m) → Heap.ExtBut a s.heap h' → Q .none { s with heap := h', toks := s.toks }) : wpAny (model C.prog C.w) A (call (.builtin "list.append") [.ref a, x]) Q E s := by
  refine call_meets F.slot_list_append ⟨_, hl, rfl⟩ F.entry_list_append (F.args_list_append_2 _ _) (PySem.list_append _ vs n _ hz) ⟨hl, ?_⟩
  exact h _ _ (IsL.update hl _) (Heap.SameBut.update ..).extBut

theorem body_sound (B : Base C cyc K T Γ d ct) {A : Around} {cenv : Env} (O : EnvOk sc cenv) (OA : OkA (d + 1) A) {accA : Addr} (hCa : C.s₁.heap.get? accA = none) {elt : Expr} {melt : ME} {gens : List Comprehension} {scope : Scope} {pos : Pos}
    (he : SndE C T d ct sc elt melt) : ∀ (cgs : List Comprehension) (gs : List MG) (dep : Nat), gens.drop (dep + 1) = cgs → GenSnd C Γ T d ct sc cgs gs →
    BodySnd C T ct sc accA cenv A (.ListComp elt gens scope pos) elt gens dep gs (fun acc k τ => evalW T ct melt (fun v σ₁ => acc.length < 1000000 ∧ k (acc ++ [v]) σ₁) τ)
  | [], [], dep, hd, _ => by
    intro P τ s acc vs n Kk E hPa FA R hv hw
    have hq : gens[dep + 1]? = none := by
      have : gens.length ≤ dep + 1 := List.drop_eq_nil_iff.mp hd
      exact List.getElem?_eq_none this
    unfold compBody
    rw [hq]
    have hro := R.roAt
    refine wpAny_bind (thenV (he _ _ _ _ _ E _ O OA (FA.add _ hPa) R hw) fun v s₁ av τ₁ v1 R1 i1 w1 => ?_)
    obtain ⟨ob, e1, e2⟩ := R1.prot accA _ add_at
    have e3 := e2.eq (by simp)
    subst e3
    have hlen : vs.size = acc.length := by rw [← hv.length]; simp
    refine wpAny_bind (append_at e1 (by unfold sizeLine; omega) fun h' m hg hx => wpAny_pure ?_)
    have hro' : ∀ x ∈ sc.ro, ∃ c o, cenv.cells.lookup (Str.ofString x) = some c ∧ P c = some o := fun x hx => by
      obtain ⟨c, o, a1, a2⟩ := hro x hx
      obtain ⟨c', o', v', b1, b2, b3, b4⟩ := R.fr.ro x hx
      rw [a1] at b1; cases b1
      by_cases q : c = accA
      · subst q; rw [add_at] at b2; cases b2; cases b3
      · rw [add_ne q] at a2; exact ⟨c, o, a1, a2⟩
    obtain ⟨_, i2, R2⟩ := R1.re hCa hPa hro' (t := s₁.toks) hx (listO_not_imm _ _) (by simp)
    refine ⟨acc ++ [av], vs.push v, m, τ₁, R2 _ hg, ?_, i1.trans i2, w1.2⟩
    have := ((hv.mono i1).append (.cons v1 .nil)).mono i2
    simpa using this
  | ⟨t, itx, ifs, a⟩ :: r, .mk mt mit mifs :: mr, dep, hd, hG => by
    obtain ⟨rfl, ht, hit, hifs, hns, hG⟩ := hG
    intro P τ s acc vs n Kk E hPa FA R hv hw
    have hq : gens[dep + 1]? = some ⟨t, itx, ifs, 0⟩ := by
      have := congrArg (·[0]?) hd
      simpa using this
    have hr : gens.drop (dep + 1 + 1) = r := by
      have := congrArg (List.drop 1) hd
      simpa [List.drop_drop, Nat.add_comm, Nat.add_left_comm] using this
    have hro : ∀ x ∈ sc.ro, ∃ c o, cenv.cells.lookup (Str.ofString x) = some c ∧ P c = some o := fun x hx => by
      obtain ⟨c', o', v', b1, b2, b3, b4⟩ := R.fr.ro x hx
      by_cases q : c' = accA
      · subst q; rw [add_at] at b2; cases b2; cases b3
      · rw [add_ne q] at b2; exact ⟨c', o', b1, b2⟩
    unfold compBody
    rw [hq]
    refine wpAny_bind (thenV (hit _ _ _ _ _ E _ O OA (FA.add _ hPa) R hw) fun v s₁ av τ₁ v1 R1 i1 w1 => wpAny_bind (wpAny_standAt ?_))
    refine wpAny_bind (wpAny_of_eq (fold_none hns _ _) (wpAny_bind (wpAny_holding (wpAny_mono (iter_sound B.ck R1 v1 w1) (fun w s₂ zz => ?_) fun _ _ e => e))))
    obtain ⟨o, chk, items, It, e1, e2, hf, hw, W, hI⟩ := zz
    subst e1 e2
    have hk : ∀ b ob, s₁.heap.get? b = some ob → (s₁.heap.push o).get? b = some ob := fun b ob e => Heap.get?_push_of_some _ e
    obtain ⟨oa, ea, _⟩ := R1.prot accA _ add_at
    have hne : s₁.heap.objs.size ≠ accA := Nat.ne_of_gt (Heap.lt_size ea)
    have hP2 := R1.nopr (get_size s₁.heap)
    rw [add_ne hne] at hP2
    have hCi : C.s₁.heap.get? s₁.heap.objs.size = none := by
      cases q : C.s₁.heap.get? s₁.heap.objs.size with
      | none => rfl
      | some o => exact absurd (Heap.lt_size (R1.keep _ _ q)) (Nat.lt_irrefl _)
    have R2 : RS C sc ((P.add s₁.heap.objs.size o).add accA (listO vs n)) cenv τ₁ { s₁ with heap := s₁.heap.push o } := by
      rw [add_comm hne]
      exact (R1.keeps (t := s₁.toks) hk).prot1 (R1.nrel (get_size _)) (Heap.get?_push_size _ hf)
    have lp : codeAny (model C.prog C.w) A (.compLoop (.ListComp elt gens scope pos) (dep + 1) (.ref s₁.heap.objs.size) (.ref accA) cenv)
        (fun r s' => match r with | .ok _ => wpAny (model C.prog C.w) A (pure ()) (fun _ s' => CP C sc accA cenv P s.heap Kk s') E s' | .error e => cameBackBy (model C.prog C.w) A cenv E e s') { s₁ with heap := s₁.heap.push o } := by
      refine loop_sound B O OA hCa hq (fun g' hg' => ?_) ht hifs (body_sound B O OA hCa he r mr (dep + 1) hr hG) W hPa hP2 hCi hne FA hro R2 hI ((hv.mono i1).mono (.of_keeps hk)) (.refl _) hw fun s' hcp => ?_
      · cases r with
        | nil =>
          have : gens.length ≤ dep + 1 + 1 := List.drop_eq_nil_iff.mp hr
          rw [List.getElem?_eq_none this] at hg'; cases hg'
        | cons g r =>
          have := congrArg (·[0]?) hr
          have e : gens[dep + 1 + 1]? = some g := by simpa using this
          rw [e] at hg'; cases hg'
          obtain ⟨_, _, _, a'⟩ := g'
          cases mr with
          | nil => exact False.elim hG
          | cons m mr => cases m; exact hG.1
      · obtain ⟨acc', vs', n', τ', a1, a2, a3, a4⟩ := hcp
        exact wpAny_pure ⟨acc', vs', n', τ', a1, a2, i1.trans ((Imm.of_keeps hk).trans a3), a4⟩
    exact wpAny_bind (wpAny_runOwn (h := none) (start_wp hq lp (W.self 0 A _ _ _ o (Heap.get?_push_size _ hf) hI ⟨rfl, rfl⟩)))
  | [], _ :: _, _, _, hG => by exact False.elim hG
  | ⟨_, _, _, _⟩ :: _, [], _, _, hG => by exact False.elim hG
end
end Mine

end

section
open PySem PySem.W PyProof.Rows PySem.Calls
set_option Elab.async false
set_option backward.match.sparseCases false
set_option maxRecDepth 100000
namespace Mine

theorem new_env {M : Model} {A : Around} {E : Value → Shared → Prop} {s : Shared} {scope : Scope} {cl : List (Str × Addr)} {env : Env} {Q : Env → Shared → Prop}
    (h : Q { scope, locals := s.heap.objs.size, globals := env.globals, cells := cellsFrom (s.heap.objs.size + 1) scope.names cl, qual := env.qual, func := none, code := env.code, frame := env.frame, builtins := env.builtins }
      { s with heap := pushCells (s.heap.push { cls := .type "dict", data := .dict #[] }) scope.names }) :
    wpAny M A (newFunctionEnv scope env.globals cl [] env.qual none .none (some env)) Q E s := by
  simp only [newFunctionEnv, Option.isSome_some, if_true]
  refine wpAny_bind (wpAny_alloc ?_)
  refine wpAny_bind (wpAny_layCells _ (fun name kind cells => by cases hkc : kind == NameKind.cell <;> simp [hkc]) _ _ _ _ ?_)
  rw [show ({ s with heap := s.heap.push { cls := .type "dict", data := .dict #[] } } : Shared).heap.objs.size = s.heap.objs.size + 1 from Heap.size_push ..]
  rw [List.forIn_nil]
  exact wpAny_bind (wpAny_pure (wpAny_pure h))

theorem mapM_mem {α β : Type} {f : α → Option β} {l : List α} : ∀ {r : List β}, l.mapM f = some r → (∀ y ∈ r, ∃ x ∈ l, f x = some y) ∧ (∀ x ∈ l, ∃ y ∈ r, f x = some y) := by
  induction l with
  | nil => intro r h; cases h; exact ⟨nofun, nofun⟩
  | cons a l ih =>
    intro r h
    obtain ⟨b, bs, h₁, h₂, rfl⟩ := mapM_cons_some h
    obtain ⟨i1, i2⟩ := ih h₂
    refine ⟨fun y hy => ?_, fun x hx => ?_⟩
    · rcases List.mem_cons.mp hy with rfl | hy
      · exact ⟨a, .head _, h₁⟩
      · obtain ⟨x, hx, e⟩ := i1 y hy; exact ⟨x, .tail _ hx, e⟩
    · rcases List.mem_cons.mp hx with rfl | hx
      · exact ⟨b, .head _, h₁⟩
      · obtain ⟨y, hy, e⟩ := i2 x hx; exact ⟨y, .tail _ hy, e⟩

structure CompOk (names : List (Str × NameKind)) (sc : Sc) : Prop where
  nodup : (names.map (·.1)).Nodup
  loc : ∀ y ∈ sc.loc, (Str.ofString y, NameKind.local) ∈ names
  own : ∀ y ∈ sc.own, (Str.ofString y, NameKind.cell) ∈ names
  ro : ∀ y ∈ sc.ro, (Str.ofString y, NameKind.free) ∈ names
  gl : ∀ y ∈ sc.gl, (Str.ofString y, NameKind.globalImplicit) ∈ names
  free : ∀ n, (n, NameKind.free) ∈ names → ∃ y ∈ sc.ro, Str.ofString y = n

theorem comp_ok {Γ : GT} (hnm : ∀ x y, Γ.nm x = some y → Str.ofString y = x ∧ (x == ("__classdict__" : Str)) = false) {names : List (Str × NameKind)} {sc : Sc} (h : compSc Γ names = some sc) : CompOk names sc := by
  unfold compSc at h
  dsimp only at h
  split at h
  · rename_i hc
    simp only [Bool.and_eq_true, decide_eq_true_eq, List.all_eq_true, Bool.or_eq_true, bne_iff_ne, beq_iff_eq] at hc
    split at h
    · rename_i a b c d h1 h2 h3 h4
      cases h
      have to : ∀ (k : NameKind) (r : List String), ((names.filter fun p => p.2 == k && p.1 != (".0" : Str)).map (·.1)).mapM Γ.nm = some r → ∀ y ∈ r, (Str.ofString y, k) ∈ names := by
        intro k r hr y hy
        obtain ⟨x, hx, e⟩ := (mapM_mem hr).1 y hy
        obtain ⟨⟨n, k'⟩, hp, rfl⟩ := List.mem_map.mp hx
        obtain ⟨hp', hq⟩ := List.mem_filter.mp hp
        simp only [Bool.and_eq_true, beq_iff_eq] at hq
        obtain ⟨rfl, _⟩ := hq
        rw [(hnm _ _ e).1]; exact hp'
      refine ⟨hc.1, to _ _ h1, to _ _ h2, to _ _ h3, to _ _ h4, fun n hn => ?_⟩
      have h0 : n ≠ (".0" : Str) := by
        rcases hc.2 _ hn with x | x
        · exact x
        · cases x
      obtain ⟨y, hy, e⟩ := (mapM_mem h3).2 n (List.mem_map.mpr ⟨(n, .free), List.mem_filter.mpr ⟨hn, by simpa using h0⟩, rfl⟩)
      exact ⟨y, hy, (hnm _ _ e).1⟩
    · cases h
  · cases h

theorem lookup_of_mem : ∀ {names : List (Str × NameKind)} {x : Str} {k : NameKind}, (names.map (·.1)).Nodup → (x, k) ∈ names → names.lookup x = some k
  | (n, k') :: r, x, k, hn, h => by
    rw [List.map_cons, List.nodup_cons] at hn
    rcases List.mem_cons.mp h with e | h'
    · cases e; simp
    · have : (x == n) = false := by rw [beq_eq_false_iff_ne]; rintro rfl; exact hn.1 (List.mem_map.mpr ⟨_, h', rfl⟩)
      rw [List.lookup_cons, this]; exact lookup_of_mem hn.2 h'
theorem lookup_relabel {env : Env} : ∀ {names : List (Str × NameKind)} {x : Str} {k : NameKind}, names.lookup x = some k →
    (names.map fun (n, k) => if (k == NameKind.free && env.scope.kind == .function && env.kindOf n == some .cell) then (n, NameKind.cell) else (n, k)).lookup x = some (if (k == NameKind.free && env.scope.kind == .function && env.kindOf x == some .cell) then .cell else k)
  | [], _, _, h => by simp at h
  | (n, k') :: r, x, k, h => by
    have ih := @lookup_relabel env r x k
    show List.lookup x ((if (k' == NameKind.free && env.scope.kind == .function && env.kindOf n == some .cell) = true then (n, NameKind.cell) else (n, k')) :: _) = _
    cases hx : x == n with
    | true =>
      simp only [List.lookup_cons, hx] at h
      cases h
      have := eq_of_beq hx
      subst this
      by_cases q : (k' == NameKind.free && env.scope.kind == .function && env.kindOf x == some .cell) = true
      · rw [if_pos q, if_pos q]; simp
      · rw [if_neg q, if_neg q]; simp
    | false =>
      simp only [List.lookup_cons, hx] at h
      by_cases q : (k' == NameKind.free && env.scope.kind == .function && env.kindOf n == some .cell) = true
      · rw [if_pos q]; simp only [List.lookup_cons, hx]; exact ih h
      · rw [if_neg q]; simp only [List.lookup_cons, hx]; exact ih h

section
variable {C : Cx} {cyc : Addr} {K : Frag} {T : Tb} {Γ : GT} {d : Nat} {ct : CT} {sc sc' : Sc}

theorem RS.cell_at {Pr : Prt} {env : Env} {σ : AS} {s : Shared} (R : RS C sc Pr env σ s) {x : String} (h : x ∈ sc.own ∨ x ∈ sc.ro) : ∃ c o v', env.cells.lookup (Str.ofString x) = some c ∧ s.heap.get? c ≠ none ∧ Pr.frame sc env s.heap c = some o ∧ o.data = .cell v' ∧ ∀ v, σ.loc x = some v → ∃ y, v' = some y ∧ VR s.heap v y := by
  rcases h with h | h
  · obtain ⟨c, v', a1, ⟨o, a2, a2'⟩, a3, a4⟩ := R.fr.own x h
    obtain ⟨o', b1, b2, _⟩ := frame_own Pr (sc := sc) (.inr ⟨x, h, a1⟩) a2
    exact ⟨c, o', v', a1, by rw [a2]; nofun, b1, b2.trans a2', a4⟩
  · obtain ⟨c, o, v', a1, a2, a3, a4⟩ := R.fr.ro x h
    obtain ⟨o', b1, _⟩ := R.prot _ _ a2
    exact ⟨c, o, v', a1, by rw [b1]; nofun, frame_some R a2, a3, a4⟩

theorem FS.inner {A : Around} {Pr : Prt} {env : Env} {σ : AS} {s : Shared} (R : RS C sc Pr env σ s) (F : FS C A Pr env.locals) (L : Addr) : FS C A (Pr.frame sc env s.heap) L := by
  obtain ⟨fs, h1, h2⟩ := F
  refine ⟨fs, h1, fun e he => ?_⟩
  obtain ⟨e0, F, e1, e2, e3⟩ := h2 e he
  refine ⟨e0, F, e1, e2, .inr ?_⟩
  rcases e3 with rfl | ⟨o, a, b⟩
  · obtain ⟨m, ⟨o, _, _, e, hd, _⟩, _⟩ := R.fr.loc
    unfold Prt.frame
    rw [if_pos rfl, e]
    exact ⟨_, rfl, rfl, _, _, hd⟩
  · exact ⟨o, frame_some R a, b⟩

theorem comp_core (B : Base C cyc K T Γ d ct) {scope : Scope} {elt it t : Expr} {ifs : List Expr} {gs : List Comprehension} {melt mit : ME} {mt : MT} {mifs : List MC} {mgs : List MG} {pos p : Pos} (hs : compSc Γ scope.names = some sc') (hkind : scope.kind = .function)
    (hro : ∀ x ∈ sc'.ro, x ∈ sc.own ∨ x ∈ sc.ro) (hit : SndE C T d ct sc it mit) (hns : notSet it = true) (ht : cT Γ sc' t = some mt) (hifs : All2 (SndC C T d ct sc') ifs mifs) (hgs : GenSnd C Γ T d ct sc' gs mgs) (he : SndE C T d ct sc' elt melt)
    {Pr : Prt} {env : Env} {σ : AS} {s : Shared} {A : Around} {E : Value → Shared → Prop} {Q : VK} {use : Option (Value → Sem Unit)} {Qf : Value → Shared → Prop} (O : EnvOk sc env) (OA : OkA (d + 1) A) (FA : FS C A Pr env.locals) (R : RS C sc Pr env σ s)
    (hw : evalW T ct (.comp (sc'.loc ++ sc'.own) melt mt mit mifs mgs) Q σ)
    (post : ∀ accA cl s' σ', RS C sc Pr env σ' s' → Imm s.heap s'.heap → Q (.ref accA) σ' → ¬ Rel C sc Pr env σ' cl → (∃ m, s'.heap.Ns cl m) → compPost (model C.prog C.w) A E use Qf (.ref accA) cl (.ok .next) s') :
    wpAny (model C.prog C.w) A (comprehension (.ListComp elt (⟨t, it, ifs, 0⟩ :: gs) scope pos) scope env p (newList []) false (eval it env) use) Qf E s := by
  have CO := comp_ok B.nm hs
  have hcell : ∀ n, (n, NameKind.free) ∈ scope.names → (env.cells.lookup n).isSome = true := fun n hn => by
    obtain ⟨y, hy, rfl⟩ := CO.free n hn
    obtain ⟨c, _, _, a, _⟩ := R.cell_at (hro y hy)
    rw [a]; rfl
  refine wpAny_comprehension_free (g := ⟨t, it, ifs, 0⟩) (gs := gs) rfl (fun x => fold_none hns env x) (closureFor_eq hcell) hkind (fun x hx hl => lookup_of_mem CO.nodup (by obtain ⟨a, b⟩ := x; simp only at hl; subst hl; exact hx)) ?_
  refine thenV (hit _ _ _ _ _ E _ O OA FA R hw) fun v s₁ av σ₁ v1 R1 i1 w1 => ?_
  refine wpAny_mono (iter_sound B.ck R1 v1 w1) (fun w s₂ zz => ?_) fun _ _ e => e
  obtain ⟨o, chk, items, It, e1, e2, hf, hw, W, hI⟩ := zz
  subst e1 e2
  refine wpAny_newObj_type (new_env ?_)
  dsimp only
  generalize hH2 : (s₁.heap.push o).push { cls := .type "list", dict := none, data := .seq ([] : List Value).toArray } = H2
  generalize hH3 : H2.push { cls := .type "dict", data := .dict #[] } = H3
  have z1 : (s₁.heap.push o).objs.size = s₁.heap.objs.size + 1 := Heap.size_push ..
  have z2 : H2.objs.size = s₁.heap.objs.size + 2 := by rw [← hH2, Heap.size_push, z1]
  have z3 : H3.objs.size = s₁.heap.objs.size + 3 := by rw [← hH3, Heap.size_push, z2]
  generalize hH4 : pushCells H3 scope.names = H4
  have k12 : ∀ b ob, (s₁.heap.push o).get? b = some ob → H2.get? b = some ob := fun b ob e => by rw [← hH2]; exact Heap.get?_push_of_some _ e
  have k23 : ∀ b ob, H2.get? b = some ob → H3.get? b = some ob := fun b ob e => by rw [← hH3]; exact Heap.get?_push_of_some _ e
  have k34 : ∀ b ob, H3.get? b = some ob → H4.get? b = some ob := fun b ob e => by rw [← hH4]; exact pushCells_keeps _ _ _ _ e
  have k01 : ∀ b ob, s₁.heap.get? b = some ob → (s₁.heap.push o).get? b = some ob := fun b ob e => Heap.get?_push_of_some _ e
  have k04 : ∀ b ob, s₁.heap.get? b = some ob → H4.get? b = some ob := fun b ob e => k34 _ _ (k23 _ _ (k12 _ _ (k01 _ _ e)))
  have gi : H4.get? s₁.heap.objs.size = some o := k34 _ _ (k23 _ _ (k12 _ _ (Heap.get?_push_size _ hf)))
  have ga : H4.get? (s₁.heap.objs.size + 1) = some (listO #[] 0) := k34 _ _ (k23 _ _ (by rw [← hH2, ← z1]; exact Heap.get?_push_size _ rfl))
  have gl : H4.get? H2.objs.size = some { cls := .type "dict", data := .dict #[] } := k34 _ _ (by rw [← hH3]; exact Heap.get?_push_size _ rfl)
  have fresh : ∀ a, s₁.heap.objs.size ≤ a → s₁.heap.get? a = none := fun a ha => get_ge ha
  have fr : ∀ a, s₁.heap.objs.size ≤ a → Free C (Pr.frame sc env s₁.heap) σ₁.heap a := fun a ha => by
    have nr := R1.nrel (fresh a ha)
    refine ⟨?_, ?_, ?_⟩
    · cases q : σ₁.heap a with
      | none => rfl
      | some x => exact (nr (.inr (.inr (.inl (by rw [q]; nofun))))).elim
    · rw [frame_other _ _ (fun n => nr (n.elim (fun e => .inr (.inr (.inr (.inl e)))) fun e => .inr (.inr (.inr (.inr e)))))]
      exact R1.nopr (fresh a ha)
    · cases q : C.s₁.heap.get? a with
      | none => rfl
      | some x => exact (nr (.inl (by rw [q]; nofun))).elim
  have cnew := cells_new scope.names H3 (closL env scope.names []) CO.nodup
  have clos := closL_lookup (env := env) scope.names [] CO.nodup hcell
  have ccell : ∀ x, (x, NameKind.free) ∈ scope.names → (cellsFrom H3.objs.size scope.names (closL env scope.names [])).lookup x = env.cells.lookup x := fun x hx => by
    rw [(cnew x).2 (fun h => ?_), (clos x).1 hx]
    have h1 := lookup_of_mem CO.nodup hx
    have h2 := lookup_of_mem CO.nodup h
    rw [h1] at h2; cases h2
  have closIn : ∀ x c, (closL env scope.names []).lookup x = some c → (x, NameKind.free) ∈ scope.names ∧ env.cells.lookup x = some c := fun x c e => by
    by_cases q : (x, NameKind.free) ∈ scope.names
    · rw [(clos x).1 q] at e; exact ⟨q, e⟩
    · rw [(clos x).2 q] at e; cases e
  rw [show H2.objs.size + 1 = H3.objs.size from by rw [z2, z3]]
  generalize hCE : ({ scope := relabel scope env, locals := H2.objs.size, globals := env.globals, cells := cellsFrom H3.objs.size scope.names (closL env scope.names []), qual := env.qual, func := none, code := env.code, frame := env.frame, builtins := env.builtins } : Env) = cenv
  have cl1 : cenv.locals = H2.objs.size := by rw [← hCE]
  have cl2 : cenv.cells = cellsFrom H3.objs.size scope.names (closL env scope.names []) := by rw [← hCE]
  have kof : ∀ x k, (x, k) ∈ scope.names → cenv.kindOf x = some (if (k == NameKind.free && env.scope.kind == .function && env.kindOf x == some .cell) then .cell else k) := fun x k hx => by
    rw [← hCE]; exact lookup_relabel (lookup_of_mem CO.nodup hx)
  have apart : ∀ {x : String} {k k' : NameKind}, (Str.ofString x, k) ∈ scope.names → (Str.ofString x, k') ∈ scope.names → k = k' := fun h1 h2 => by
    have a := lookup_of_mem CO.nodup h1
    have b := lookup_of_mem CO.nodup h2
    rw [a] at b; cases b; rfl
  have O' : EnvOk sc' cenv := by
    refine ⟨?_, ?_, ?_, fun x hx => ?_, fun x hx => ?_, fun x hx => ?_, fun x hx => ?_, fun x y c h1 h2 => ?_, fun x hx => ⟨fun h => ?_, fun h => ?_⟩, fun x hx h => ?_⟩
    · rw [← hCE]; exact hkind
    · rw [← hCE]; exact O.glob
    · rw [← hCE]; exact O.blt
    · rw [kof _ _ (CO.loc x hx)]; rfl
    · rw [kof _ _ (CO.own x hx)]; rfl
    · rw [kof _ _ (CO.ro x hx)]; split
      · exact .inl rfl
      · exact .inr rfl
    · rw [kof _ _ (CO.gl x hx)]; rfl
    · rw [cl2] at h1 h2
      refine cells_inj scope.names H3 _ CO.nodup (fun z hz hc => ?_) (fun z c e => ?_) (fun z u c e1 e2 => O.inj _ _ _ (closIn _ _ e1).2 (closIn _ _ e2).2) x y c h1 h2
      · obtain ⟨n, k⟩ := z
        simp only at hc; subst hc
        rw [(clos n).2 (fun h => by have a := lookup_of_mem CO.nodup h; have b := lookup_of_mem CO.nodup hz; rw [a] at b; cases b)]; rfl
      · obtain ⟨hz, e⟩ := closIn _ _ e
        obtain ⟨y', hy', rfl⟩ := CO.free z hz
        obtain ⟨c', _, _, a, b, _⟩ := R1.cell_at (hro y' hy')
        rw [e] at a; cases a
        cases q : s₁.heap.get? c with
        | none => exact (b q).elim
        | some ob => rw [z3]; exact Nat.lt_of_lt_of_le (Heap.lt_size q) (Nat.le_add_right _ _)
    · cases apart (CO.loc x hx) (CO.own x h)
    · cases apart (CO.loc x hx) (CO.ro x h)
    · cases apart (CO.own x hx) (CO.ro x h)
  have F' : Fm C sc' (Pr.frame sc env s₁.heap) cenv ⟨fun x => if x ∈ sc'.loc ++ sc'.own then none else σ₁.loc x, σ₁.heap⟩ H4 := by
    refine ⟨⟨fun _ => none, ?_, fun x hx v hv => ?_⟩, ?_, fun x hx => ?_, fun x hx => ?_⟩
    · rw [cl1]; exact ⟨_, #[], 0, gl, rfl, fun _ he => by simp at he, fun _ => rfl⟩
    · simp [hx] at hv
    · rw [cl1, z2]; exact fr _ (Nat.le_add_right _ _)
    · obtain ⟨c, c1, c2, c3⟩ := (cnew (Str.ofString x)).1 (CO.own x hx)
      rw [hH4] at c3
      refine ⟨c, none, by rw [cl2]; exact c1, ⟨_, c3, rfl⟩, fr c (by rw [z3] at c2; exact Nat.le_trans (Nat.le_add_right _ _) c2), fun v hv => ?_⟩
      simp [hx] at hv
    · obtain ⟨c, o', v', a1, _, a2, a3, a4⟩ := R1.cell_at (hro x hx)
      refine ⟨c, o', v', by rw [cl2, ccell _ (CO.ro x hx)]; exact a1, a2, a3, fun v hv => ?_⟩
      have hv' : σ₁.loc x = some v := by
        dsimp only at hv
        split at hv
        · cases hv
        · exact hv
      obtain ⟨y, b1, b2⟩ := a4 v hv'
      exact ⟨y, b1, b2.mono (.of_keeps k04)⟩
  have R2 := R1.enter (t := s₁.toks) k04 F'
  have hiA : s₁.heap.objs.size ≠ s₁.heap.objs.size + 1 := (Nat.succ_ne_self _).symm
  have nrl : ∀ a, s₁.heap.objs.size ≤ a → a ≠ H2.objs.size → a < H2.objs.size → ¬ Rel C sc' (Pr.frame sc env s₁.heap) cenv ⟨fun x => if x ∈ sc'.loc ++ sc'.own then none else σ₁.loc x, σ₁.heap⟩ a := fun a ha hb hc => by
    have F := fr a ha
    rintro (h | h | h | h | ⟨x, hx, h⟩)
    · exact h F.2.2
    · exact h F.2.1
    · exact h F.1
    · rw [cl1] at h; exact hb h
    · obtain ⟨c, c1, c2, c3⟩ := (cnew (Str.ofString x)).1 (CO.own x hx)
      rw [cl2, c1] at h; cases h
      rw [z3] at c2; rw [z2] at hc
      exact absurd (Nat.lt_of_lt_of_le hc (Nat.le_trans (Nat.le_succ _) c2)) (Nat.lt_irrefl _)
  have n1 := nrl s₁.heap.objs.size (Nat.le_refl _) (by rw [z2]; exact Nat.ne_of_lt (Nat.lt_add_of_pos_right (by decide))) (by rw [z2]; exact Nat.lt_add_of_pos_right (by decide))
  have n2 := nrl (s₁.heap.objs.size + 1) (Nat.le_succ _) (by rw [z2]; exact Nat.ne_of_lt (Nat.lt_succ_self _)) (by rw [z2]; exact Nat.lt_succ_self _)
  have R3 := R2.prot1 n1 gi
  have R4 := R3.prot1 (b := s₁.heap.objs.size + 1) (ob := listO #[] 0) (by
    rintro (h | h | h | h)
    · exact n2 (.inl h)
    · rw [add_ne hiA.symm] at h; exact n2 (.inr (.inl h))
    · exact n2 (.inr (.inr (.inl h)))
    · exact n2 (.inr (.inr (.inr h)))) ga
  have FA' : FS C A (Pr.frame sc env s₁.heap) cenv.locals := FS.inner R1 FA _
  have hroP : ∀ x ∈ sc'.ro, ∃ c o, cenv.cells.lookup (Str.ofString x) = some c ∧ Pr.frame sc env s₁.heap c = some o := R2.roAt
  have hPa := (fr (s₁.heap.objs.size + 1) (Nat.le_succ _)).2.1
  have lp : codeAny (model C.prog C.w) A (.compLoop (.ListComp elt (⟨t, it, ifs, 0⟩ :: gs) scope pos) 0 (.ref s₁.heap.objs.size) (.ref (s₁.heap.objs.size + 1)) cenv)
      (compPost (model C.prog C.w) A E use Qf (.ref (s₁.heap.objs.size + 1)) cenv.locals) { s₁ with heap := H4, toks := s₁.toks } := by
    refine loop_sound B O' OA (fr (s₁.heap.objs.size + 1) (Nat.le_succ _)).2.2 (gens := ⟨t, it, ifs, 0⟩ :: gs) (dep := 0) rfl (fun g' hg' => ?_) ht hifs (body_sound B O' OA (fr (s₁.heap.objs.size + 1) (Nat.le_succ _)).2.2 he gs mgs 0 rfl hgs) W hPa (fr _ (Nat.le_refl _)).2.1 (fr _ (Nat.le_refl _)).2.2 hiA FA' hroP R4 hI .nil
      (.of_keeps fun b ob e => k34 _ _ (k23 _ _ (k12 _ _ e))) hw fun s' hcp => ?_
    · cases gs with
      | nil => cases hg'
      | cons g gs =>
        cases hg'
        obtain ⟨_, _, _, a'⟩ := g'
        cases mgs with
        | nil => exact False.elim hgs
        | cons m mgs => cases m; exact hgs.1
    · obtain ⟨acc, vs, n, τ, R5, hv5, i5, hq⟩ := hcp
      have i6 : Imm s₁.heap s'.heap := (Imm.of_keeps k04).trans i5
      have hCa := (fr (s₁.heap.objs.size + 1) (Nat.le_succ _)).2.2
      have nra := R5.nrel_prot hCa hPa
      have R6 := R5.unprot hPa hroP
      have R7 := R1.leave R6 i6
      obtain ⟨oa, ea, sa⟩ := R5.prot _ _ add_at
      have := sa.eq (by simp)
      subst this
      have nr7 : ∀ a, s₁.heap.objs.size ≤ a → ¬ Rel C sc' (Pr.frame sc env s₁.heap) cenv τ a ∨ τ.heap a = none → ¬ Rel C sc Pr env ⟨σ₁.loc, τ.heap⟩ a := fun a ha hr => by
        have nr := R1.nrel (fresh a ha)
        rintro (h | h | h | h)
        · exact nr (.inl h)
        · exact nr (.inr (.inl h))
        · rcases hr with hr | hr
          · exact hr (.inr (.inr (.inl h)))
          · exact h hr
        · exact nr (.inr (.inr (.inr h)))
      have R8 := R7.adopt (o := .list acc) (nr7 _ (Nat.le_succ _) (.inl nra)) ea ⟨vs, n, rfl, hv5⟩
      have hta : τ.heap (s₁.heap.objs.size + 1) = none := by
        cases q : τ.heap (s₁.heap.objs.size + 1) with
        | none => rfl
        | some x => exact (nra (.inr (.inr (.inl (by rw [q]; nofun))))).elim
      have hcl : s₁.heap.objs.size ≤ cenv.locals := by rw [cl1, z2]; exact Nat.le_add_right _ _
      refine post _ _ _ _ R8 (i1.trans i6) (hq _ hta) ?_ ?_
      · have n0 := nr7 cenv.locals hcl (.inr R6.fr.locF.1)
        have hne : cenv.locals ≠ s₁.heap.objs.size + 1 := by rw [cl1, z2]; exact Nat.succ_ne_self _
        rintro (h | h | h | h)
        · exact n0 (.inl h)
        · exact n0 (.inr (.inl h))
        · simp only [AS.ins, Hp.ins, if_neg hne] at h; exact n0 (.inr (.inr (.inl h)))
        · exact n0 (.inr (.inr (.inr h)))
      · obtain ⟨m, hm, _⟩ := R6.fr.loc
        exact ⟨m, hm⟩
  have key := start_wp (gens := ⟨t, it, ifs, 0⟩ :: gs) (dep := 0) rfl lp (W.self 0 A _ _ _ o gi hI ⟨rfl, rfl⟩)
  rw [cl1] at key
  rw [z1]
  exact key

theorem ns_let_go {Pr : Prt} {env : Env} {σ : AS} {s : Shared} (R : RS C sc Pr env σ s) {cl : Addr} {m : Str → Option Value} (hn : ¬ Rel C sc Pr env σ cl) (hm : s.heap.Ns cl m) {h' : Heap} (hx : Heap.SameBut cl s.heap h') : RS C sc Pr env σ { s with heap := h' } ∧ Imm s.heap h' :=
  ⟨R.ext1 (t := s.toks) hx.extBut hn (fun o e => ns_not_imm hm e), fun b o e i => hx.extBut b o (by rintro rfl; exact ns_not_imm hm e i) e⟩

theorem snd_comp (B : Base C cyc K T Γ d ct) {scope : Scope} {elt it t : Expr} {ifs : List Expr} {gs : List Comprehension} {melt mit : ME} {mt : MT} {mifs : List MC} {mgs : List MG} {pos : Pos} (hs : compSc Γ scope.names = some sc') (hkind : scope.kind = .function)
    (hro : ∀ x ∈ sc'.ro, x ∈ sc.own ∨ x ∈ sc.ro) (hit : SndE C T d ct sc it mit) (hns : notSet it = true) (ht : cT Γ sc' t = some mt) (hifs : All2 (SndC C T d ct sc') ifs mifs) (hgs : GenSnd C Γ T d ct sc' gs mgs) (he : SndE C T d ct sc' elt melt) :
    SndE C T d ct sc (.ListComp elt (⟨t, it, ifs, 0⟩ :: gs) scope pos) (.comp (sc'.loc ++ sc'.own) melt mt mit mifs mgs) := by
  intro Pr env σ s A E Q O OA FA R hw
  rw [eval_ListComp]
  refine comp_core B hs hkind hro hit hns ht hifs hgs he O OA FA R hw fun accA cl s' σ' R' i hq hn ⟨m, hm⟩ => ⟨m, hm, fun h' hx => ?_⟩
  obtain ⟨R2, i2⟩ := ns_let_go R' hn hm hx
  exact ⟨.ref accA, σ', .ref _, R2, i.trans i2, hq⟩
end
end Mine

end

section
open PySem PySem.W PyProof.Rows PySem.Calls
set_option Elab.async false
set_option backward.match.sparseCases false
set_option maxRecDepth 100000
set_option maxHeartbeats 2000000
namespace Mine
section
variable {C : Cx} {cyc : Addr} {K : Frag} {T : Tb} {Γ : GT} {d : Nat} {ct : CT}

theorem ce_notStar {n : Nat} {sc : Sc} {e : Expr} {m : ME} (h : cE Γ n sc e = some m) : notStar e = true := by
  cases e with
  | Starred a p => cases n <;> cases h
  | _ => rfl

structure SndN (C : Cx) (Γ : GT) (T : Tb) (d : Nat) (ct : CT) (n : Nat) : Prop where
  e : ∀ sc e m, cE Γ n sc e = some m → SndE C T d ct sc e m
  es : ∀ sc e m, cEs Γ n sc e = some m → SndEs C T d ct sc e m
  o : ∀ sc e m, cO Γ n sc e = some m → SndO C T d ct sc e m
  c : ∀ sc e m, cC Γ n sc e = some m → SndC C T d ct sc e m
  cs : ∀ sc e m, cCs Γ n sc e = some m → All2 (SndC C T d ct sc) e m
  gs : ∀ sc e m, cGs Γ n sc e = some m → GenSnd C Γ T d ct sc e m

/-- the pieces of a comprehension -/
theorem comp_parts {n : Nat} {sc : Sc} {elt : Expr} {gens : List Comprehension} {scope : Scope} {p : Pos} {m : ME} (h : cE Γ (n + 1) sc (.ListComp elt gens scope p) = some m) :
    ∃ g sc' it' t' ifs' gs' elt', genOf gens = some g ∧ compSc Γ scope.names = some sc' ∧ ((∀ x ∈ sc'.ro, x ∈ sc.own ∨ x ∈ sc.ro) ∧ scope.kind = .function ∧ notSet g.1.iter = true) ∧ cE Γ n sc g.1.iter = some it' ∧ cT Γ sc' g.1.target = some t' ∧ cCs Γ n sc' g.1.ifs = some ifs' ∧ cGs Γ n sc' g.2 = some gs' ∧ cE Γ n sc' elt = some elt' ∧
      True ∧ m = .comp (sc'.loc ++ sc'.own) elt' t' it' ifs' gs' := by
  obtain ⟨g, hg, h⟩ := bindS (show ((genOf gens).bind fun g => (compSc Γ scope.names).bind fun sc' => orNone (sc'.ro.all (fun x => sc.own.contains x || sc.ro.contains x) && decide (scope.kind = .function) && notSet g.1.iter)
        ((cE Γ n sc g.1.iter).bind fun it' => (cT Γ sc' g.1.target).bind fun t' => (cCs Γ n sc' g.1.ifs).bind fun ifs' => (cGs Γ n sc' g.2).bind fun gs' => (cE Γ n sc' elt).bind fun elt' => some (.comp (sc'.loc ++ sc'.own) elt' t' it' ifs' gs'))) = some m from h)
  obtain ⟨sc', hs, h⟩ := bindS h
  obtain ⟨hc, h⟩ := orNone_eq h
  obtain ⟨it', h1, h⟩ := bindS h
  obtain ⟨t', h2, h⟩ := bindS h
  obtain ⟨ifs', h3, h⟩ := bindS h
  obtain ⟨gs', h4, h⟩ := bindS h
  obtain ⟨elt', h5, h⟩ := bindS h
  cases h
  obtain ⟨c1, c2⟩ := Bool.and_eq_true_iff.1 hc
  obtain ⟨c3, c4⟩ := Bool.and_eq_true_iff.1 c1
  exact ⟨g, sc', it', t', ifs', gs', elt', hg, hs, ⟨fun x hx => by simpa using List.all_eq_true.1 c3 x hx, of_decide_eq_true c4, c2⟩, h1, h2, h3, h4, h5, trivial, rfl⟩

theorem sound_call (B : Base C cyc K T Γ d ct) {n : Nat} (I : SndN C Γ T d ct n) {sc : Sc} {f : Expr} {args : List Expr} {kws : List Keyword} {pos : Pos} {m : ME} (h₀ : cE Γ (n + 1) sc (.Call f args kws pos) = some m) : SndE C T d ct sc (.Call f args kws pos) m := by
  obtain ⟨hk, h⟩ := orNone_eq h₀
  clear h₀
  cases kws with
  | cons _ _ => cases hk
  | nil =>
    cases f with
    | Attribute o name apos =>
      cases hs : (one args).bind starOf with
      | some a =>
        rw [hs] at h
        obtain ⟨hc, h⟩ := orNone_eq h
        obtain ⟨x, hx, h⟩ := bindS h
        obtain ⟨o', ho, h⟩ := bindS h
        obtain ⟨a', ha, h⟩ := bindS h
        cases h
        obtain ⟨e, he, h2⟩ := bindS hs
        rw [one_eq he, starOf_eq h2]
        exact snd_methS B (Bool.and_eq_true_iff.1 hc).2 hx (I.e _ _ _ ho) (I.e _ _ _ ha)
      | none =>
        rw [hs] at h
        obtain ⟨hc, h⟩ := orNone_eq h
        obtain ⟨x, hx, h⟩ := bindS h
        obtain ⟨o', ho, h⟩ := bindS h
        obtain ⟨as, ha, h⟩ := bindS h
        cases h
        have h1 := Bool.and_eq_true_iff.1 hc
        have h2 := Bool.and_eq_true_iff.1 h1.1
        exact snd_meth B h2.2 h2.1 (of_decide_eq_true h1.2) hx (I.e _ _ _ ho) (I.es _ _ _ ha)
    | Name f p =>
      obtain ⟨hc, h⟩ := orNone_eq h
      obtain ⟨⟨y, g⟩, hg, h⟩ := bindS h
      obtain ⟨as, ha, h⟩ := bindS h
      cases g with
      | prim pr => cases h; exact snd_pcall B hg (I.es _ _ _ ha)
      | fn a => cases h; exact snd_fcall B hg (I.es _ _ _ ha)
      | cls a => cases h; exact snd_ncall B hg (I.es _ _ _ ha)
      | val v => cases h
    | _ => cases h

theorem sound_e (B : Base C cyc K T Γ d ct) {n : Nat} (I : SndN C Γ T d ct n) : ∀ sc e m, cE Γ (n + 1) sc e = some m → SndE C T d ct sc e m := by
  intro sc e m h
  cases e with
  | Constant c k p =>
    cases c with
    | int i => cases h; exact snd_int
    | none => cases h; exact snd_none
    | bool b => cases h; exact snd_bool
    | _ => cases h
  | Name x p =>
    have h : (match Γ.seen sc x with | some y => some (.var y) | none => (Γ.glob sc x).bind fun g => some (.gl g.1 g.2.av)) = some m := h
    cases hs : Γ.seen sc x with
    | some y => rw [hs] at h; cases h; exact snd_name B hs
    | none =>
      rw [hs] at h
      obtain ⟨⟨y, g⟩, hg, h⟩ := bindS h
      cases h
      exact snd_glob B hg
  | BinOp l op r p =>
    obtain ⟨a, ha, h⟩ := bindS (show ((cE Γ n sc l).bind fun a => (cE Γ n sc r).bind fun b => some (.bin op a b)) = some m from h)
    obtain ⟨b, hb, h⟩ := bindS h
    cases h
    exact snd_bin B (I.e _ _ _ ha) (I.e _ _ _ hb)
  | UnaryOp op x p =>
    obtain ⟨a, ha, h⟩ := bindS (show (cE Γ n sc x).bind (cNeg op) = some m from h)
    cases op with
    | USub => cases h; exact snd_neg (I.e _ _ _ ha)
    | _ => cases h
  | Compare l ops rs p =>
    obtain ⟨op, hop, h⟩ := bindS (show ((one ops).bind fun op => (one rs).bind fun r => orNone (!behindInMarks op r) ((cE Γ n sc l).bind fun a => (cE Γ n sc r).bind fun b => some (.cmp op a b))) = some m from h)
    obtain ⟨r, hr, h⟩ := bindS h
    obtain ⟨hm, h⟩ := orNone_eq h
    obtain ⟨a, ha, h⟩ := bindS h
    obtain ⟨b, hb, h⟩ := bindS h
    cases h
    rw [one_eq hop, one_eq hr]
    exact snd_cmp B (Eq.mp (Bool.not_eq_true' _) hm) (I.e _ _ _ ha) (I.e _ _ _ hb)
  | IfExp c a b p =>
    obtain ⟨c', hc, h⟩ := bindS (show ((cC Γ n sc c).bind fun c => (cE Γ n sc a).bind fun a => (cE Γ n sc b).bind fun b => some (.ife c a b)) = some m from h)
    obtain ⟨a', ha, h⟩ := bindS h
    obtain ⟨b', hb, h⟩ := bindS h
    cases h
    exact snd_ife (I.c _ _ _ hc) (I.e _ _ _ ha) (I.e _ _ _ hb)
  | NamedExpr t v p =>
    obtain ⟨x, hx, h⟩ := bindS (show ((nameOf t).bind fun x => (Γ.kept sc x.1).bind fun y => (cE Γ n sc v).bind fun v => some (.walrus y v)) = some m from h)
    obtain ⟨y, hy, h⟩ := bindS h
    obtain ⟨v', hv, h⟩ := bindS h
    cases h
    rw [nameOf_eq hx]
    exact snd_walrus B hy (I.e _ _ _ hv)
  | Call f args kws pos => exact sound_call B I h
  | Attribute o name p =>
    obtain ⟨hb, h⟩ := orNone_eq (show orNone (baseOk o) ((Γ.nm name).bind fun m => (cE Γ n sc o).bind fun o => some (.attr o m)) = some m from h)
    obtain ⟨x, hx, h⟩ := bindS h
    obtain ⟨o', ho, h⟩ := bindS h
    cases h
    exact snd_attr B hb hx (I.e _ _ _ ho)
  | Subscript o i p =>
    have h : (match cutOf i with
      | some c => (cE Γ n sc o).bind fun o => (cO Γ n sc c.1).bind fun l => (cO Γ n sc c.2.1).bind fun h => some (.slice o l h)
      | none => orNone (notSlice i) ((cE Γ n sc o).bind fun o => (cE Γ n sc i).bind fun i => some (.sub o i))) = some m := h
    cases hc : cutOf i with
    | some c =>
      rw [hc] at h
      obtain ⟨o', ho, h⟩ := bindS h
      obtain ⟨l, hl, h⟩ := bindS h
      obtain ⟨r, hr, h⟩ := bindS h
      cases h
      rw [cutOf_eq hc]
      exact snd_slice (I.e _ _ _ ho) (I.o _ _ _ hl) (I.o _ _ _ hr)
    | none =>
      rw [hc] at h
      obtain ⟨hb, h⟩ := orNone_eq h
      obtain ⟨o', ho, h⟩ := bindS h
      obtain ⟨i', hi, h⟩ := bindS h
      cases h
      exact snd_sub B hb (I.e _ _ _ ho) (I.e _ _ _ hi)
  | List es p =>
    obtain ⟨hb, h⟩ := orNone_eq (show orNone (decide (es.length < 1000)) ((cEs Γ n sc es).bind fun es => some (.list es)) = some m from h)
    obtain ⟨as, ha, h⟩ := bindS h
    cases h
    exact snd_list (of_decide_eq_true hb) (I.es _ _ _ ha)
  | Tuple es k p =>
    obtain ⟨hb, h⟩ := orNone_eq (show orNone (decide (es.length < 1000)) ((cEs Γ n sc es).bind fun es => some (.tup es)) = some m from h)
    obtain ⟨as, ha, h⟩ := bindS h
    cases h
    exact snd_tup (of_decide_eq_true hb) (I.es _ _ _ ha)
  | Dict ks vs p =>
    obtain ⟨hb, h⟩ := orNone_eq (show orNone (ks.isEmpty && vs.isEmpty) (some .dict0) = some m from h)
    cases h
    obtain ⟨h1, h2⟩ := Bool.and_eq_true_iff.1 hb
    rw [List.isEmpty_iff.1 h1, List.isEmpty_iff.1 h2]
    exact snd_dict0
  | ListComp elt gens scope p =>
    obtain ⟨g, sc', it', t', ifs', gs', elt', h1, h2, h3, h4, h5, h6, h7, h8, h9, rfl⟩ := comp_parts h
    rw [genOf_eq h1]
    exact snd_comp B h2 h3.2.1 h3.1 (I.e _ _ _ h4) h3.2.2 h5 (I.cs _ _ _ h6) (I.gs _ _ _ h7) (I.e _ _ _ h8)
  | _ => cases h

theorem plain_c {n : Nat} (B : Base C cyc K T Γ d ct) (I : SndN C Γ T d ct n) {sc : Sc} {e : Expr} {m : MC} (h : ((cE Γ n sc e).bind fun a => some (MC.plain a)) = some m) (he : ∀ env w, isTrue e env w = (do let v ← w; standAt e.pos; holding [v] (truthy v))) : SndC C T d ct sc e m := by
  obtain ⟨a, ha, h⟩ := bindS h
  cases h
  exact snd_cplain B (I.e _ _ _ ha) he

theorem sound_c (B : Base C cyc K T Γ d ct) {n : Nat} (I : SndN C Γ T d ct n) : ∀ sc e m, cC Γ (n + 1) sc e = some m → SndC C T d ct sc e m := by
  intro sc e m h
  cases e with
  | UnaryOp op x p =>
    cases op with
    | Not =>
      obtain ⟨a, ha, h⟩ := bindS (show ((cC Γ n sc x).bind fun a => some (.not a)) = some m from h)
      cases h
      exact snd_cnot (I.c _ _ _ ha)
    | _ => cases h
  | BoolOp op vs p =>
    cases op with
    | And =>
      obtain ⟨a, ha, h⟩ := bindS (show ((cCs Γ n sc vs).bind fun a => some (.and a)) = some m from h)
      cases h
      exact snd_cand (conds_of (I.cs _ _ _ ha))
    | Or =>
      obtain ⟨a, ha, h⟩ := bindS (show ((cCs Γ n sc vs).bind fun a => some (.or a)) = some m from h)
      cases h
      exact snd_cor (conds_of (I.cs _ _ _ ha))
  | Compare l ops rs p =>
    obtain ⟨op, hop, h⟩ := bindS (show ((one ops).bind fun op => (one rs).bind fun r => orNone (!behindInMarks op r) ((cE Γ n sc l).bind fun a => (cE Γ n sc r).bind fun b => some (.cmp op a b))) = some m from h)
    obtain ⟨r, hr, h⟩ := bindS h
    obtain ⟨hm, h⟩ := orNone_eq h
    obtain ⟨a, ha, h⟩ := bindS h
    obtain ⟨b, hb, h⟩ := bindS h
    cases h
    rw [one_eq hop, one_eq hr]
    exact snd_ccmp B (Eq.mp (Bool.not_eq_true' _) hm) (I.e _ _ _ ha) (I.e _ _ _ hb)
  | IfExp => cases h
  | _ => exact plain_c B I h fun _ _ => rfl

theorem sound_all (B : Base C cyc K T Γ d ct) : ∀ n, SndN C Γ T d ct n
  | 0 => by refine ⟨?_, ?_, ?_, ?_, ?_, ?_⟩ <;> exact fun _ _ _ h => (by cases h)
  | n + 1 => by
    have I := sound_all B n
    refine ⟨sound_e B I, fun sc es ms h => ?_, fun sc o m h => ?_, sound_c B I, fun sc es ms h => ?_, fun sc gs ms h => ?_⟩
    · cases es with
      | nil => cases h; exact snd_es_nil
      | cons e es =>
        obtain ⟨a, ha, h⟩ := bindS (show ((cE Γ n sc e).bind fun a => (cEs Γ n sc es).bind fun b => some (a :: b)) = some ms from h)
        obtain ⟨b, hb, h⟩ := bindS h
        cases h
        exact snd_es_cons (ce_notStar ha) (I.e _ _ _ ha) (I.es _ _ _ hb)
    · cases o with
      | none => cases h; exact snd_o_none
      | some e =>
        obtain ⟨a, ha, h⟩ := bindS (show ((cE Γ n sc e).bind fun a => some (some a)) = some m from h)
        cases h
        exact snd_o_some (I.e _ _ _ ha)
    · cases es with
      | nil => cases h; trivial
      | cons e es =>
        obtain ⟨a, ha, h⟩ := bindS (show ((cC Γ n sc e).bind fun a => (cCs Γ n sc es).bind fun b => some (a :: b)) = some ms from h)
        obtain ⟨b, hb, h⟩ := bindS h
        cases h
        exact ⟨I.c _ _ _ ha, I.cs _ _ _ hb⟩
    · cases gs with
      | nil => cases h; trivial
      | cons g gs =>
        obtain ⟨hc, h⟩ := orNone_eq (show orNone (g.is_async == 0 && notSet g.iter) ((cT Γ sc g.target).bind fun t' => (cE Γ n sc g.iter).bind fun it' => (cCs Γ n sc g.ifs).bind fun ifs' => (cGs Γ n sc gs).bind fun r' => some (.mk t' it' ifs' :: r')) = some ms from h)
        obtain ⟨t', ht, h⟩ := bindS h
        obtain ⟨it', hi, h⟩ := bindS h
        obtain ⟨ifs', hf, h⟩ := bindS h
        obtain ⟨r', hr, h⟩ := bindS h
        cases h
        obtain ⟨h1, h2⟩ := Bool.and_eq_true_iff.1 hc
        obtain ⟨tg, it, ifs, a⟩ := g
        exact ⟨eq_of_beq h1, ht, I.e _ _ _ hi, I.cs _ _ _ hf, h2, I.gs _ _ _ hr⟩
end
end Mine

end

section
open PySem PySem.W PyProof.Rows PySem.Calls
set_option Elab.async false
set_option backward.match.sparseCases false
set_option maxRecDepth 100000
set_option maxHeartbeats 2000000
namespace Mine

inductive FR (h : Heap) : AF → Flow → Prop
  | next : FR h .next .next
  | brk : FR h .brk .brk
  | cont : FR h .cont .cont
  | ret {v : AV} {w : Value} : VR h v w → FR h (.ret v) (.ret w)

def PF (C : Cx) (sc : Sc) (Pr : Prt) (env : Env) (h : Heap) (Q : FK) : Flow → Shared → Prop :=
  fun f s' => ∃ af σ', FR s'.heap af f ∧ RS C sc Pr env σ' s' ∧ Imm h s'.heap ∧ Q af σ'

section
variable {C : Cx} {cyc : Addr} {K : Frag} {T : Tb} {Γ : GT} {d : Nat} {ct : CT} {sc : Sc}

theorem PF.from {Pr : Prt} {env : Env} {h h' : Heap} {Q : FK} (i : Imm h h') {f : Flow} {s : Shared} (x : PF C sc Pr env h' Q f s) : PF C sc Pr env h Q f s :=
  let ⟨a, b, c, d, e, f⟩ := x; ⟨a, b, c, d, i.trans e, f⟩
theorem PX.from {raw : Bool} {Pr : Prt} {env : Env} {h h' : Heap} {X : AS → Prop} (i : Imm h h') {e : Value} {s : Shared} (x : PX raw C cyc sc Pr env h' X e s) : PX raw C cyc sc Pr env h X e s :=
  let ⟨a, b, c, d, e, f⟩ := x; ⟨a, b, c, d, i.trans e, f⟩
theorem PX.no {raw : Bool} {Pr : Prt} {env : Env} {h : Heap} {e : Value} {s : Shared} {P : Prop} (x : PX raw C cyc sc Pr env h (fun _ => False) e s) : P :=
  let ⟨_, _, _, _, _, _, f⟩ := x; f.elim
theorem PF.next {Pr : Prt} {env : Env} {h : Heap} {Q : FK} {u : Unit} {s : Shared} (x : PU C sc Pr env h (Q .next) u s) : PF C sc Pr env h Q .next s :=
  let ⟨b, d, e, f⟩ := x; ⟨.next, b, .next, d, e, f⟩

/-- a frame of a def, and it is the topmost one -/
structure FnA (A : Around) (env : Env) : Prop where
  frame : env.frame = some env.locals
  top : ∃ outer, A.frames = some (env :: outer)

def SndS (C : Cx) (cyc : Addr) (T : Tb) (d : Nat) (ct : CT) (sc : Sc) (st : Stmt) (m : MS) : Prop := ∀ (Pr : Prt) (env : Env) (σ : AS) (s : Shared) (A : Around) (E : Value → Shared → Prop) (Q : FK),
  EnvOk sc env → FnA A env → OkA (d + 1) A → FS C A Pr env.locals → RS C sc Pr env σ s → execW T ct m Q σ → (∀ e s', PX true C cyc sc Pr env s.heap (Q .exc) e s' → E e s') →
  wpAny (model C.prog C.w) A (exec st env) (PF C sc Pr env s.heap Q) E s
def SndSs (C : Cx) (cyc : Addr) (T : Tb) (d : Nat) (ct : CT) (sc : Sc) (st : List Stmt) (m : List MS) : Prop := ∀ (Pr : Prt) (env : Env) (σ : AS) (s : Shared) (A : Around) (E : Value → Shared → Prop) (Q : FK),
  EnvOk sc env → FnA A env → OkA (d + 1) A → FS C A Pr env.locals → RS C sc Pr env σ s → execsW T ct m Q σ → (∀ e s', PX true C cyc sc Pr env s.heap (Q .exc) e s' → E e s') →
  wpAny (model C.prog C.w) A (execs st env) (PF C sc Pr env s.heap Q) E s

theorem snd_never {st : Stmt} : SndS C cyc T d ct sc st .never := by
  intro Pr env σ s A E Q O hf OA FA R hw; exact hw.elim
theorem snd_nil : SndSs C cyc T d ct sc [] [] := by
  intro Pr env σ s A E Q O hf OA FA R hw hE
  exact wpAny_execs_nil ⟨.next, σ, .next, R, .refl _, hw⟩
theorem snd_cons {st : Stmt} {m : MS} {sts : List Stmt} {ms : List MS} (h1 : SndS C cyc T d ct sc st m) (h2 : SndSs C cyc T d ct sc sts ms) : SndSs C cyc T d ct sc (st :: sts) (m :: ms) := by
  intro Pr env σ s A E Q O hf OA FA R hw hE
  refine wpAny_execs_cons (wpAny_mono (h1 _ _ _ _ _ E _ O hf OA FA R hw hE) (fun f s₁ zz => ?_) fun _ _ e => e)
  obtain ⟨af, σ₁, fr, R1, i1, q⟩ := zz
  cases fr with
  | next => exact wpAny_mono (h2 _ _ _ _ _ E _ O hf OA FA R1 q fun e s' x => hE e s' (x.from i1)) (fun _ _ x => x.from i1) fun _ _ e => e
  | brk => exact ⟨.brk, σ₁, .brk, R1, i1, q⟩
  | cont => exact ⟨.cont, σ₁, .cont, R1, i1, q⟩
  | ret hv => exact ⟨.ret _, σ₁, .ret hv, R1, i1, q⟩

theorem snd_pass {p : Pos} : SndS C cyc T d ct sc (.Pass p) .pass := by
  intro Pr env σ s A E Q O hf OA FA R hw hE
  exact wpAny_Pass ⟨.next, σ, .next, R, .refl _, hw⟩
theorem snd_break {p : Pos} : SndS C cyc T d ct sc (.Break p) .brk := by
  intro Pr env σ s A E Q O hf OA FA R hw hE
  exact wpAny_Break ⟨.brk, σ, .brk, R, .refl _, hw⟩
theorem snd_continue {p : Pos} : SndS C cyc T d ct sc (.Continue p) .cont := by
  intro Pr env σ s A E Q O hf OA FA R hw hE
  exact wpAny_Continue ⟨.cont, σ, .cont, R, .refl _, hw⟩
theorem snd_return {e : Expr} {m : ME} {p : Pos} (h : SndE C T d ct sc e m) : SndS C cyc T d ct sc (.Return (some e) p) (.ret m) := by
  intro Pr env σ s A E Q O hf OA FA R hw hE
  exact wpAny_Return_some (thenV (h _ _ _ _ _ E _ O OA FA R hw) fun v s₁ av σ₁ v1 R1 i1 q => ⟨.ret av, σ₁, .ret v1, R1, i1, q⟩)
theorem snd_expr {e : Expr} {m : ME} {p : Pos} (hc : isCall e = true) (h : SndE C T d ct sc e m) : SndS C cyc T d ct sc (.Expr e p) (.expr m) := by
  intro Pr env σ s A E Q O hf OA FA R hw hE
  refine wpAny_Expr_any (thenV (h _ _ _ _ _ E _ O OA FA R hw) fun v s₁ av σ₁ v1 R1 i1 q => ⟨.next, σ₁, .next, R1, i1, q⟩) ?_ ?_
  · unfold interactive; rw [O.kind]; rfl
  · cases e <;> first | rfl | cases hc
theorem snd_if {c : Expr} {m : MC} {a b : List Stmt} {ma mb : List MS} {p : Pos} (hc : SndC C T d ct sc c m) (ha : SndSs C cyc T d ct sc a ma) (hb : SndSs C cyc T d ct sc b mb) : SndS C cyc T d ct sc (.If c a b p) (.ifS m ma mb) := by
  intro Pr env σ s A E Q O hf OA FA R hw hE
  refine wpAny_If (wpAny_mono (hc _ _ _ _ _ E _ O OA FA R hw) (fun t s₁ zz => ?_) fun _ _ e => e)
  obtain ⟨σ₁, R1, i1, q⟩ := zz
  cases t
  · exact wpAny_mono (hb _ _ _ _ _ E _ O hf OA FA R1 q fun e s' x => hE e s' (x.from i1)) (fun _ _ x => x.from i1) fun _ _ e => e
  · exact wpAny_mono (ha _ _ _ _ _ E _ O hf OA FA R1 q fun e s' x => hE e s' (x.from i1)) (fun _ _ x => x.from i1) fun _ _ e => e

theorem snd_while {c : Expr} {m : MC} {a b : List Stmt} {ma mb : List MS} {p : Pos} (hc : SndC C T d ct sc c m) (ha : SndSs C cyc T d ct sc a ma) (hb : SndSs C cyc T d ct sc b mb) : SndS C cyc T d ct sc (.While c a b p) (.whileS m ma mb) := by
  intro Pr env σ s A E Q O hf OA FA R hw hE
  obtain ⟨I, ⟨n, hn⟩, hw⟩ := hw
  refine wpAny_While (codeAny_whileLoop (fun n s' => ∃ σ', RS C sc Pr env σ' s' ∧ Imm s.heap s'.heap ∧ I n σ') (fun k s' zz => ?_) n ⟨σ, R, .refl _, hn⟩)
  obtain ⟨σ', R', i', hI⟩ := zz
  refine wpAny_mono (hc _ _ _ _ _ _ _ O OA FA R' (hw k σ' hI)) (fun t s₁ zz => ?_) fun _ _ e => e
  obtain ⟨σ₁, R1, i1, q⟩ := zz
  cases t
  · refine wpAny_mono (hb _ _ _ _ _ _ _ O hf OA FA R1 q fun e s' x => PX.no x) (fun f s₂ zz => ?_) fun _ _ e => e
    obtain ⟨af, σ₂, fr, R2, i2, q⟩ := zz
    have ii := i'.trans (i1.trans i2)
    cases fr with
    | next => exact ⟨.next, σ₂, .next, R2, ii, q⟩
    | brk => exact ⟨.brk, σ₂, .brk, R2, ii, q⟩
    | cont => exact ⟨.cont, σ₂, .cont, R2, ii, q⟩
    | ret hv => exact ⟨.ret _, σ₂, .ret hv, R2, ii, q⟩
  · refine wpAny_mono (ha _ _ _ _ _ _ _ O hf OA FA R1 q fun e s' x => PX.no x) (fun f s₂ zz => ?_) fun _ _ e => e
    obtain ⟨af, σ₂, fr, R2, i2, q⟩ := zz
    have ii := i'.trans (i1.trans i2)
    cases fr with
    | next => obtain ⟨k', h1, h2⟩ := q; exact ⟨k', h1, σ₂, R2, ii, h2⟩
    | cont => obtain ⟨k', h1, h2⟩ := q; exact ⟨k', h1, σ₂, R2, ii, h2⟩
    | brk => exact ⟨.next, σ₂, .next, R2, ii, q⟩
    | ret hv => exact ⟨.ret _, σ₂, .ret hv, R2, ii, q⟩

theorem forLoopW_drop {chk : AS → Prop} {body : AV → FK → AS → Prop} {items : List AV} {Q : FK} {i : Nat} {x : AV} (h : items[i]? = some x) {τ : AS} (hw : forLoopW chk body (items.drop i) Q τ) :
    chk τ ∧ body x (fun f τ => match f with | .next | .cont => forLoopW chk body (items.drop (i + 1)) Q τ | .brk => Q .next τ | .ret v => Q (.ret v) τ | .exc => False) τ := by
  have hlt : i < items.length := (List.getElem?_eq_some_iff.mp h).1
  have hdr : items.drop i = x :: items.drop (i + 1) := by
    rw [List.drop_eq_getElem_cons hlt]; congr 1
    exact (List.getElem?_eq_some_iff.mp h).2
  rw [hdr] at hw
  exact hw

/-- a turn of a loop -/
def stepF (T : Tb) (ct : CT) (mt : MT) (mb : List MS) : AV → FK → AS → Prop := fun v K τ => bindT mt v (fun τ₁ => execsW T ct mb K τ₁) τ
/-- between the turns of a loop -/
structure ForI (C : Cx) (sc : Sc) (Pr : Prt) (env : Env) (b : Addr) (items : List AV) (It : Nat → Obj → Prop) (h : Heap) (W : List AV → AS → Prop) (k : Nat) (s' : Shared) (i : Nat) (o' : Obj) (τ : AS) : Prop where
  hk' : k = items.length - i
  hle : i ≤ items.length
  R3 : RS C sc (Pr.add b o') env τ s'
  hI : It i o'
  hi : Imm h s'.heap
  hw : W (items.drop i) τ

theorem snd_for (B : Base C cyc K T Γ d ct) {t it : Expr} {mt : MT} {mi : ME} {body : List Stmt} {mb : List MS} {p : Pos} (ht : cT Γ sc t = some mt) (hit : SndE C T d ct sc it mi) (hns : notSet it = true) (hb : SndSs C cyc T d ct sc body mb) :
    SndS C cyc T d ct sc (.For t it body [] p) (.forS mt mi mb) := by
  intro Pr env σ s A E Q O hf OA FA R hw hE
  have hh := OA.handled
  refine wpAny_For (thenV (hit _ _ _ _ _ E _ O OA FA R hw) fun v s₁ av σ₁ v1 R1 i1 w1 => ?_) (fun x => fold_none hns env x)
  refine wpAny_mono (iter_sound B.ck R1 v1 w1) (fun w s₂ zz => ?_) fun _ _ e => e
  obtain ⟨o, chk, items, It, e1, e2, hfr, hw, W, hI⟩ := zz
  subst e1 e2
  have hk : ∀ b ob, s₁.heap.get? b = some ob → (s₁.heap.push o).get? b = some ob := fun b ob e => Heap.get?_push_of_some _ e
  have hP2 := R1.nopr (get_size s₁.heap)
  have hCi : C.s₁.heap.get? s₁.heap.objs.size = none := by
    cases q : C.s₁.heap.get? s₁.heap.objs.size with
    | none => rfl
    | some o => exact absurd (Heap.lt_size (R1.keep _ _ q)) (Nat.lt_irrefl _)
  have R2 : RS C sc (Pr.add s₁.heap.objs.size o) env σ₁ { s₁ with heap := s₁.heap.push o } := (R1.keeps (t := s₁.toks) hk).prot1 (R1.nrel (get_size _)) (Heap.get?_push_size _ hfr)
  have hro := R.roAt
  have i01 : Imm s.heap (s₁.heap.push o) := i1.trans (.of_keeps hk)
  refine codeAny_loop' rfl (fun k s' => ∃ i o' τ, ForI C sc Pr env s₁.heap.objs.size items It (s₁.heap.push o) (fun l τ => forLoopW chk (stepF T ct mt mb) l Q τ) k s' i o' τ) (fun k s' hI => ?_) items.length ⟨0, o, σ₁, rfl, Nat.zero_le _, R2, hI, .refl _, hw⟩
  show wpAny _ _ ((forTurn t (.ref s₁.heap.objs.size) body [] env).onRaise (fun x => do noteFrame x env; theTreesLotGoes x)) _ _ s'
  refine wpAny_noted ?_
  obtain ⟨i, o', τ, hk', hle, R3, hI, hi, hw⟩ := hI
  obtain ⟨T0, fs, hT0, hc0, hd0⟩ := W.kind i o' hI
  have hfr' : o'.cls ≠ .type "frame" := by
    rw [hc0]; rintro e; cases e
    simp [iterNames] at hT0
  have him := iter_not_imm hT0 hc0 hd0
  have ho : s'.heap.get? s₁.heap.objs.size = some o' := by
    obtain ⟨o2, e1, e2⟩ := R3.prot _ _ add_at
    have := e2.eq hfr'
    subst this; exact e1
  have hnt : τ.heap s₁.heap.objs.size = none := by
    cases q : τ.heap s₁.heap.objs.size with
    | none => rfl
    | some o2 => exact (R3.nrel_prot hCi hP2 (.inr (.inr (.inl (by rw [q]; nofun))))).elim
  simp only [forTurn]
  cases hx : items[i]? with
  | none =>
    have hlen : i = items.length := by have := List.getElem?_eq_none_iff.mp hx; omega
    rw [List.drop_of_length_le (by omega)] at hw
    refine wpAny_bind (wpAny_standAt (wpAny_bind (wpAny_onRaise (W.done i A sc _ env τ s' _ _ o' hh R3 hi hw.1 ho hI hlen fun h' tk hx => ?_))))
    obtain ⟨R4, i4, _⟩ := R3.re hCi hP2 hro (t := tk) hx him hfr'
    exact wpAny_pure (.inr ⟨rfl, codeAny_block (wpAny_execs_nil ⟨.next, τ, .next, R4, i01.trans (hi.trans i4), hw.2⟩)⟩)
  | some x =>
    have hlt : i < items.length := (List.getElem?_eq_some_iff.mp hx).1
    obtain ⟨hc, hw⟩ := forLoopW_drop hx hw
    refine wpAny_bind (wpAny_standAt (wpAny_bind (wpAny_onRaise (W.item i x A sc _ env τ s' _ _ o' hh R3 hi hc ho hI hnt hx fun v h' tk o2 hvx hx2 ho2 hI2 => ?_))))
    obtain ⟨_, i4, R4⟩ := R3.re hCi hP2 hro (t := tk) hx2 him hfr'
    have R4 := R4 o2 ho2
    obtain ⟨T1, fs1, hT1, hc1, hd1⟩ := W.kind (i + 1) o2 hI2
    refine wpAny_bind (own_go (o := o2) ho2 hT1 hc1 hd1 ?_)
    have FA2 : FS C A (Pr.add s₁.heap.objs.size o2) env.locals := FA.add _ hP2
    refine wpAny_bind (wpAny_mono (tgt_sound B hh O ht R4 hvx hw) (fun _ s₃ zz => ?_) fun _ _ e => e)
    obtain ⟨τ₁, R5, i5, hw⟩ := zz
    refine wpAny_bind (wpAny_mono (hb _ _ _ _ _ _ _ O hf OA FA2 R5 hw fun e s' x => PX.no x) (fun f s₄ zz => ?_) fun _ _ e => e)
    obtain ⟨af, τ₂, fr, R6, i6, q⟩ := zz
    have ii : Imm (s₁.heap.push o) s₄.heap := hi.trans (i4.trans (i5.trans i6))
    cases fr with
    | next => exact wpAny_pure (.inl ⟨rfl, items.length - (i + 1), by omega, i + 1, o2, τ₂, rfl, by omega, R6, hI2, ii, q⟩)
    | cont => exact wpAny_pure (.inl ⟨rfl, items.length - (i + 1), by omega, i + 1, o2, τ₂, rfl, by omega, R6, hI2, ii, q⟩)
    | brk => exact wpAny_pure ⟨.next, τ₂, .next, R6.unprot hP2 hro, i01.trans ii, q⟩
    | ret hv => exact wpAny_pure ⟨.ret _, τ₂, .ret hv, R6.unprot hP2 hro, i01.trans ii, q⟩
end
end Mine

end

section
open PySem PySem.W PyProof.Rows PySem.Calls
set_option Elab.async false
set_option backward.match.sparseCases false
set_option maxRecDepth 100000
set_option maxHeartbeats 2000000
namespace Mine
section
variable {C : Cx} {cyc : Addr} {K : Frag} {T : Tb} {Γ : GT} {d : Nat} {ct : CT} {sc : Sc}

/-- one target of an assignment -/
theorem tgtA_sound (B : Base C cyc K T Γ d ct) {n : Nat} {t : Expr} {mt : MTgt} (ht : cTgt Γ n sc t = some mt) {Pr : Prt} {env : Env} {A : Around} {E : Value → Shared → Prop} {σ : AS} {s : Shared} {av : AV} {v : Value} {P : AS → Prop}
    (O : EnvOk sc env) (OA : OkA (d + 1) A) (FA : FS C A Pr env.locals) (R : RS C sc Pr env σ s) (hv : VR s.heap av v) (h : assignW T ct mt av P σ) : wpAny (model C.prog C.w) A (assign t env v) (PU C sc Pr env s.heap P) E s := by
  have I := sound_all B n
  cases t with
  | Name x p =>
    obtain ⟨y, hy, rfl⟩ := Option.map_eq_some_iff.mp (show (Γ.kept sc x).map .name = some mt from ht)
    obtain ⟨rfl, hin⟩ := kept_of B hy
    exact wpAny_assign_Name (R.storeN O hin hv h)
  | Tuple es k p =>
    obtain ⟨m, hm, h₁⟩ := bindS (show (cT Γ sc (.Tuple es k p)).bind tupT = some mt from ht)
    cases m with
    | name => cases h₁
    | tup xs => cases h₁; exact tgt_sound B OA.handled O hm R hv h
  | Attribute o name p =>
    obtain ⟨o', ho, h₁⟩ := bindS (show ((cE Γ n sc o).bind fun o => (Γ.nm name).bind fun m => some (.attr o m)) = some mt from ht)
    obtain ⟨m, hm, h₁⟩ := bindS h₁
    cases h₁
    obtain ⟨rfl, _⟩ := B.nm _ _ hm
    rw [assign_Attribute]
    refine wpAny_bind (wpAny_holding (thenV (I.e _ _ _ ho _ _ _ _ _ E _ O OA FA R h) fun ov s₁ ao σ₁ v1 R1 i1 w1 => wpAny_bind (wpAny_standAt ?_)))
    exact wpAny_bind (wpAny_holding (wpAny_mono (setAttr_sound B.kin B.tb R1 v1 (hv.mono i1) w1) (fun _ s₂ x => wpAny_release (x.from i1)) fun _ _ e => e))
  | Subscript o i p =>
    obtain ⟨_, h₁⟩ := orNone_eq (show orNone (notSlice i) ((cE Γ n sc o).bind fun o => (cE Γ n sc i).bind fun i => some (.sub o i)) = some mt from ht)
    obtain ⟨o', ho, h₁⟩ := bindS h₁
    obtain ⟨i', hi, h₁⟩ := bindS h₁
    cases h₁
    rw [assign_Subscript]
    refine wpAny_bind (wpAny_holding (thenV (I.e _ _ _ ho _ _ _ _ _ E _ O OA FA R h) fun ov s₁ ao σ₁ v1 R1 i1 w1 => ?_))
    refine wpAny_bind (wpAny_holding (thenV (I.e _ _ _ hi _ _ _ _ _ E _ O OA FA R1 w1) fun iv s₂ ai σ₂ v2 R2 i2 w2 => wpAny_bind (wpAny_standAt ?_)))
    exact wpAny_bind (wpAny_holding (wpAny_mono (setItem_sound R2 (v1.mono i2) v2 (hv.mono (i1.trans i2)) w2) (fun _ s₃ x => wpAny_release (x.from (i1.trans i2))) fun _ _ e => e))
  | _ => cases ht

theorem setAll_append (σ : AS) (xs ys : List String) (us vs : List AV) (h : us.length = xs.length) : σ.setAll (xs ++ ys) (us ++ vs) = (σ.setAll xs us).setAll ys vs := by
  induction xs generalizing σ us with
  | nil => cases us with
    | nil => rfl
    | cons => simp at h
  | cons x xs ih => cases us with
    | nil => simp at h
    | cons u us => exact ih _ _ (by simpa using h)
theorem setAll_comm (σ : AS) (x : String) (v : AV) : ∀ (xs : List String) (vs : List AV), x ∉ xs → (σ.set x v).setAll xs vs = (σ.setAll xs vs).set x v := by
  intro xs
  induction xs generalizing σ with
  | nil => intros; rfl
  | cons y ys ih =>
    intro vs hn
    cases vs with
    | nil => rfl
    | cons u us =>
      simp only [List.mem_cons, not_or] at hn
      show ((σ.set x v).set y u).setAll ys us = ((σ.set y u).setAll ys us).set x v
      rw [← ih _ _ hn.2]
      congr 1
      unfold AS.set
      congr 1
      funext z
      by_cases h1 : z = x <;> by_cases h2 : z = y
      · exact (hn.1 (h1 ▸ h2)).elim
      · simp [h1, hn.1]
      · simp [h2, Ne.symm hn.1]
      · simp [h1, h2]
theorem setAll_reverse (σ : AS) (xs : List String) (vs : List AV) (hn : xs.Nodup) (hl : vs.length = xs.length) : σ.setAll xs.reverse vs.reverse = σ.setAll xs vs := by
  induction xs generalizing σ vs with
  | nil => cases vs with
    | nil => rfl
    | cons => simp at hl
  | cons x xs ih => cases vs with
    | nil => simp at hl
    | cons v vs =>
      rw [List.nodup_cons] at hn
      rw [List.reverse_cons, List.reverse_cons, setAll_append _ _ _ _ _ (by simpa using hl), ih _ _ hn.2 (by simpa using hl)]
      show (σ.setAll xs vs).set x v = (σ.set x v).setAll xs vs
      rw [setAll_comm _ _ _ _ _ hn.1]

/-- stores in the other order -/
theorem names_sound (B : Base C cyc K T Γ d ct) {Pr : Prt} {env : Env} {A : Around} {E : Value → Shared → Prop} (O : EnvOk sc env) : ∀ (ys : List String) (vs : List AV) (us : List Value) (σ : AS) (s : Shared) (P : AS → Prop),
    (∀ y ∈ ys, y ∈ sc.loc ∨ y ∈ sc.own) → vs.length = ys.length → VRs s.heap vs us → RS C sc Pr env σ s → P (σ.setAll ys vs) →
    wpAny (model C.prog C.w) A (assignInOrder (ys.map fun y => bindName env (Str.ofString y)) us) (PU C sc Pr env s.heap P) E s
  | [], vs, us, σ, s, P, h, hl, hv, R, hp => by
    cases vs with
    | nil => exact assignInOrder_nil ⟨σ, R, .refl _, hp⟩
    | cons => simp at hl
  | y :: ys, vs, us, σ, s, P, h, hl, hv, R, hp => by
    cases vs with
    | nil => simp at hl
    | cons v vs =>
    obtain ⟨u, us, rfl, hu, hv⟩ := hv.cons_inv
    refine assignInOrder_cons (wpAny_bindName (wpAny_mono (R.storeN O (h y (by simp)) hu (P := fun τ => τ = σ.set y v) rfl) (fun _ s₁ zz => ?_) fun _ _ e => e))
    obtain ⟨σ₁, R1, i1, q⟩ := zz
    subst q
    exact wpAny_mono (names_sound B O ys vs us _ s₁ P (fun z hz => h z (by simp [hz])) (by simpa using hl) (hv.mono i1) R1 hp) (fun _ _ x => x.from i1) fun _ _ e => e

theorem VRs.reverse {h : Heap} {l : List AV} {vs : List Value} (x : VRs h l vs) : VRs h l.reverse vs.reverse := by
  induction l generalizing vs with
  | nil => rw [x.nil_inv]; exact .nil
  | cons a l ih =>
    obtain ⟨v, ws, rfl, a, r⟩ := x.cons_inv
    rw [List.reverse_cons, List.reverse_cons]; exact (ih r).append (.cons a .nil)

set_option backward.match.sparseCases true in
/-- the names that a pattern holds, as the model reads them -/
def idsOf (c : Str → Pos → Bool) (ts : List Expr) : List Str := ts.filterMap fun | .Name id pos => if c id pos = true then some id else none | _ => none
theorem kept_at {Γ : GT} {x : Str} {y : String} (hk : Γ.kept sc x = some y) : Γ.nm x = some y := by
  delta GT.kept at hk
  cases e : Γ.nm x with
  | none => simp only [e] at hk; cases hk
  | some z =>
    simp only [e] at hk
    by_cases c : (sc.loc.contains z || sc.own.contains z) = true
    · rw [if_pos c] at hk; exact hk
    · rw [if_neg c] at hk; cases hk
theorem names_eq {Γ : GT} (hnm : ∀ x y, Γ.nm x = some y → Str.ofString y = x ∧ (x == ("__classdict__" : Str)) = false) {c : Str → Pos → Bool} (ts : List Expr) : ∀ (xs : List String),
    ts.mapM (keptE Γ sc) = some xs →
    (idsOf c ts).length = ts.length → idsOf c ts = xs.map Str.ofString := by
  induction ts with
  | nil => intro xs h _; cases h; rfl
  | cons e es ih =>
    intro xs h hl
    obtain ⟨y, zs, h₁, h₂, rfl⟩ := mapM_cons_some h
    have le : (idsOf c es).length ≤ es.length := List.length_filterMap_le ..
    obtain ⟨x, p, rfl, hk⟩ := kept_name h₁
    by_cases hc : c x p = true
    · have e₁ : idsOf c (Expr.Name x p :: es) = x :: idsOf c es := List.filterMap_cons_some (if_pos hc)
      rw [e₁] at hl ⊢
      rw [ih zs h₂ (Nat.succ.inj hl), List.map_cons, (hnm _ _ (kept_at hk)).1]
    · have e₁ : idsOf c (Expr.Name x p :: es) = idsOf c es := List.filterMap_cons_none (if_neg hc)
      rw [e₁, List.length_cons] at hl
      omega

set_option backward.match.sparseCases true in
/-- which order the stores have -/
theorem swapped_spec {Γ : GT} {t v : Expr} {env : Env} (hok : storeOk t v = true) : swappedStores [t] v env = pure none ∨ ∃ ts k p names, t = .Tuple ts k p ∧ swappedStores [t] v env = pure (some names) ∧
    (∀ xs : List String, (∀ x y, Γ.nm x = some y → Str.ofString y = x ∧ (x == ("__classdict__" : Str)) = false) → ts.mapM (keptE Γ sc) = some xs → names = xs.map Str.ofString) := by
  cases t with
  | Tuple ts k p =>
    cases v with
    | Tuple vs k' p' =>
      by_cases c₁ : (!(ts.length == 2 || ts.length == 3) || vs.length != ts.length || env.blockKind != .function) = true
      · exact .inl (if_pos c₁)
      by_cases c₂ : (vs.any fun | .Starred .. => true | _ => false) = true
      · exact .inl ((if_neg c₁).trans (if_pos c₂))
      by_cases c₃ : ((idsOf (fun id pos => env.kindOf id == some .local && pos.line == (ts.head?.map (·.pos.line)).getD 0) ts).length != ts.length || (idsOf (fun id pos => env.kindOf id == some .local && pos.line == (ts.head?.map (·.pos.line)).getD 0) ts).eraseDups.length != (idsOf (fun id pos => env.kindOf id == some .local && pos.line == (ts.head?.map (·.pos.line)).getD 0) ts).length) = true
      · exact .inl ((if_neg c₁).trans ((if_neg c₂).trans (if_pos c₃)))
      by_cases c₄ : vs.all (foldedForSure 8) = true
      · exact .inl ((if_neg c₁).trans ((if_neg c₂).trans ((if_neg c₃).trans (if_pos c₄))))
      by_cases c₅ : vs.all (constantsAlone 8) = true
      · have : (!vs.all (constantsAlone 8)) = true := hok
        rw [c₅] at this; cases this
      refine .inr ⟨ts, k, p, _, rfl, (if_neg c₁).trans ((if_neg c₂).trans ((if_neg c₃).trans ((if_neg c₄).trans (if_neg c₅)))), fun xs hnm hx => names_eq hnm ts xs hx ?_⟩
      rw [Bool.or_eq_true, not_or] at c₃
      simpa using c₃.1
    | _ => exact .inl rfl
  | List ts p => cases hok
  | _ => exact .inl rfl
end
end Mine

end

section
open PySem PySem.W PyProof.Rows PySem.Calls
set_option Elab.async false
set_option backward.match.sparseCases false
set_option maxRecDepth 100000
set_option maxHeartbeats 2000000
namespace Mine
section
variable {C : Cx} {cyc : Addr} {K : Frag} {T : Tb} {Γ : GT} {d : Nat} {ct : CT} {sc : Sc}

theorem swaps_spec {n : Nat} {v t : Expr} {m : ME} {l : Nat} {env : Env} (h : cE Γ n sc v = some m) : swapsWith v (some t) l env = pure false ∨ (swapsWith v (some t) l env = pure true ∧ ∃ elt gens scope p x px, v = .ListComp elt gens scope p ∧ t = .Name x px) := by
  cases v with
  | ListComp elt gens scope p =>
    cases t with
    | Name x px =>
      show (pure _ : Sem Bool) = _ ∨ _
      generalize hb : (env.blockKind == .function && env.kindOf x == some .local && px.line == (Expr.ListComp elt gens scope p).pos.line
        && !(scope.names.any fun (n, k) => n == x && (k == .local || k == .cell))) = b
      cases b with
      | false => exact .inl rfl
      | true => exact .inr ⟨by show (pure _ : Sem Bool) = _; exact congrArg pure hb, _, _, _, _, _, _, rfl, rfl⟩
    | _ => exact .inl rfl
  | SetComp => cases n <;> cases h
  | DictComp => cases n <;> cases h
  | _ => exact .inl rfl

theorem comp_pieces (B : Base C cyc K T Γ d ct) {n : Nat} {elt : Expr} {gens : List Comprehension} {scope : Scope} {p : Pos} {m : ME} (h : cE Γ n sc (.ListComp elt gens scope p) = some m) :
    ∃ t it ifs gs sc' melt mt mit mifs mgs, gens = ⟨t, it, ifs, 0⟩ :: gs ∧ m = .comp (sc'.loc ++ sc'.own) melt mt mit mifs mgs ∧ compSc Γ scope.names = some sc' ∧ scope.kind = .function ∧ (∀ x ∈ sc'.ro, x ∈ sc.own ∨ x ∈ sc.ro) ∧ SndE C T d ct sc it mit ∧ notSet it = true ∧
      cT Γ sc' t = some mt ∧ All2 (SndC C T d ct sc') ifs mifs ∧ GenSnd C Γ T d ct sc' gs mgs ∧ SndE C T d ct sc' elt melt := by
  cases n with
  | zero => cases h
  | succ n =>
    have I := sound_all B n
    obtain ⟨g, sc', it', t', ifs', gs', elt', h1, h2, h3, h4, h5, h6, h7, h8, _, rfl⟩ := comp_parts h
    exact ⟨_, _, _, _, sc', _, _, _, _, _, genOf_eq h1, rfl, h2, h3.2.1, h3.1, I.e _ _ _ h4, h3.2.2, h5, I.cs _ _ _ h6, I.gs _ _ _ h7, I.e _ _ _ h8⟩

theorem cTgt_star {n : Nat} {t : Expr} {mt : MTgt} (ht : cTgt Γ n sc t = some mt) : notStar t = true := by cases t <;> first | rfl | cases ht
theorem assignEach_one {t : Expr} {env : Env} (h : notStar t = true) : (assignEach [t] env).map (·.2) = [assign t env] := by cases t <;> first | rfl | cases h
theorem cTgt_tup {n : Nat} {ts : List Expr} {k : Nat} {p : Pos} {mt : MTgt} (ht : cTgt Γ n sc (.Tuple ts k p) = some mt) : ∃ xs, mt = .tup xs ∧ ts.mapM (keptE Γ sc) = some xs ∧ xs.Nodup := by
  obtain ⟨m, hm, h₁⟩ := bindS (show (cT Γ sc (.Tuple ts k p)).bind tupT = some mt from ht)
  obtain ⟨xs, rfl, hx⟩ := cT_tup hm
  cases h₁
  exact ⟨xs, rfl, hx⟩

theorem snd_assign (B : Base C cyc K T Γ d ct) {n : Nat} {t v : Expr} {mt : MTgt} {m : ME} {p : Pos} (hok : storeOk t v = true) (ht : cTgt Γ n sc t = some mt) (hv : cE Γ n sc v = some m) : SndS C cyc T d ct sc (.Assign [t] v p) (.assign mt m) := by
  intro Pr env σ s A E Q O hf OA FA R hw hE
  have I := sound_all B n
  rw [exec_Assign_arm]
  refine wpAny_bind (wpAny_standAt ?_)
  rw [assignEach_one (cTgt_star ht)]
  rcases swaps_spec (t := t) (l := p.line) (env := env) hv with hs | ⟨hs, elt, gens, scope, q, x, px, rfl, rfl⟩
  · rw [show swapsWithSole [t] v p.line env = pure false from hs]
    refine wpAny_bind (wpAny_pure ?_)
    rw [if_neg (by decide)]
    refine wpAny_bind (thenV (I.e _ _ _ hv _ _ _ _ _ E _ O OA FA R hw) fun u s₁ av σ₁ v1 R1 i1 w1 => ?_)
    rcases swapped_spec (sc := sc) (Γ := Γ) (env := env) hok with hsw | ⟨ts, k, q, names, rfl, hsw, hnames⟩
    · rw [hsw]
      refine wpAny_bind (wpAny_pure ?_)
      show wpAny _ _ (do assign t env u; pure Flow.next) _ _ _
      exact wpAny_bind (wpAny_mono (tgtA_sound B ht O OA FA R1 v1 w1) (fun _ s₂ x => wpAny_pure (PF.next (x.from i1))) fun _ _ e => e)
    · rw [hsw]
      refine wpAny_bind (wpAny_pure ?_)
      obtain ⟨xs, rfl, hx, hnd⟩ := cTgt_tup ht
      obtain ⟨vs, rfl, hl, w1⟩ := w1
      have hn := hnames xs B.nm hx
      subst hn
      obtain ⟨ua, us, rfl, htp, hvs⟩ := v1.tup_inv
      show wpAny _ _ (do rule "assign.swapped-stores"; let items ← unpackItems (.ref ua) (xs.map Str.ofString).length none; assignInOrder ((xs.map Str.ofString).reverse.map fun n => bindName env n) items.reverse; pure Flow.next) _ _ _
      refine wpAny_bind (wpAny_rule ?_)
      have hlen : (xs.map Str.ofString).length = us.toArray.size := by simp [hvs.length, hl]
      rw [hlen]
      refine wpAny_bind (wpAny_unpackItems_tuple OA.handled htp.tuple fun h' he => ?_)
      have hk : ∀ b o, s₁.heap.get? b = some o → h'.get? b = some o := fun b o e => he b o (Nat.ne_of_lt (Heap.lt_size e)) e
      have hmap : ((xs.map Str.ofString).reverse.map fun n => bindName env n) = xs.reverse.map fun y => bindName env (Str.ofString y) := by
        rw [← List.map_reverse, List.map_map]; rfl
      rw [hmap]
      have hin : ∀ y ∈ xs, y ∈ sc.loc ∨ y ∈ sc.own := fun y hy => by
        obtain ⟨e, he, h2⟩ := (mapM_mem hx).1 y hy
        obtain ⟨z, p, rfl, h3⟩ := kept_name h2
        exact (kept_of B h3).2
      refine wpAny_bind (wpAny_mono (names_sound B O xs.reverse vs.reverse _ σ₁ _ (Q .next) (fun y hy => hin y (by simpa using hy)) (by simpa using hl) (by simpa using (hvs.mono (.of_keeps hk)).reverse) (R1.keeps hk) (by rw [setAll_reverse _ _ _ hnd hl]; exact w1)) (fun _ s₂ x => wpAny_pure (PF.next (x.from (i1.trans (.of_keeps hk))))) fun _ _ e => e)
  · rw [show swapsWithSole [.Name x px] (.ListComp elt gens scope q) p.line env = pure true from hs]
    refine wpAny_bind (wpAny_pure ?_)
    rw [if_pos rfl]
    obtain ⟨t', it, ifs, gs, sc', melt, mt', mit, mifs, mgs, rfl, rfl, h1, h2, h3, h4, h5, h6, h7, h8, h9⟩ := comp_pieces B hv
    obtain ⟨y, hy, rfl⟩ := Option.map_eq_some_iff.mp (show (Γ.kept sc x).map MTgt.name = some mt from ht)
    obtain ⟨rfl, hin⟩ := kept_of B hy
    rw [arm_evalThenUse_ListComp]
    refine wpAny_bind (wpAny_bind (comp_core (Q := fun v σ₁ => Q .next (σ₁.set y v)) B h1 h2 h3 h4 h5 h6 h7 h8 h9 O OA FA R hw fun accA cl s' σ' R' i hq hn zz => ?_))
    obtain ⟨mm, hm⟩ := zz
    show wpAny _ _ (assign (.Name (Str.ofString y) px) env (.ref accA)) _ _ _
    obtain ⟨ocl, es, ep, g1, g2, g3⟩ := hm
    have hC : C.s₁.heap.get? cl = none := by
      cases q : C.s₁.heap.get? cl with
      | none => rfl
      | some o => exact (hn (.inl (by rw [q]; nofun))).elim
    have hP : Pr cl = none := by
      cases q : Pr cl with
      | none => rfl
      | some o => exact (hn (.inr (.inl (by rw [q]; nofun)))).elim
    refine wpAny_assign_Name (wpAny_mono ((R'.prot1 hn g1).storeN O hin (.ref accA) (P := fun τ => Q .next τ) hq) (fun _ s₂ zz => ?_) fun _ _ e => e)
    obtain ⟨σ₂, R2, i2, q2⟩ := zz
    obtain ⟨o2, e1, e2⟩ := R2.prot _ _ add_at
    have hns : s₂.heap.Ns cl mm := ⟨o2, es, ep, e1, e2.2.1.trans g2, g3⟩
    refine ⟨mm, hns, fun h' hx => ?_⟩
    have hn2 := R2.nrel_prot hC hP
    obtain ⟨R3, i3⟩ := ns_let_go (R2.unprot hP R.roAt) hn2 hns hx
    exact wpAny_pure (wpAny_pure ⟨.next, σ₂, .next, R3, i.trans (i2.trans i3), q2⟩)
end
end Mine

end

section
open PySem PySem.W PyProof.Rows PySem.Calls
set_option Elab.async false
set_option backward.match.sparseCases false
set_option maxRecDepth 100000
set_option maxHeartbeats 2000000
namespace Mine
section
variable {C : Cx} {cyc : Addr} {K : Frag} {T : Tb} {Γ : GT} {d : Nat} {ct : CT} {sc : Sc}

theorem snd_assign2 (B : Base C cyc K T Γ d ct) {n : Nat} {t u v : Expr} {mt mu : MTgt} {m : ME} {p : Pos} (h1 : notStar t = true) (h2 : notStar u = true) (ht : cTgt Γ n sc t = some mt) (hu : cTgt Γ n sc u = some mu) (hv : cE Γ n sc v = some m) :
    SndS C cyc T d ct sc (.Assign [t, u] v p) (.assign2 mt mu m) := by
  intro Pr env σ s A E Q O hf OA FA R hw hE
  have I := sound_all B n
  have hea : (assignEach [t, u] env).map (·.2) = [assign t env, assign u env] := by
    have e1 : assignEach [t, u] env = (false, assign t env) :: assignEach [u] env := by cases t <;> first | rfl | cases h1
    have e2 : assignEach [u] env = [(false, assign u env)] := by cases u <;> first | rfl | cases h2
    rw [e1, e2]; rfl
  refine wpAny_Assign_two (thenV (I.e _ _ _ hv _ _ _ _ _ E _ O OA FA R hw) fun w s₁ av σ₁ v1 R1 i1 w1 => ?_) hea (by cases t <;> first | rfl | (cases v <;> rfl))
  refine wpAny_mono (tgtA_sound B ht O OA FA R1 v1 w1) (fun _ s₂ zz => ?_) fun _ _ e => e
  obtain ⟨σ₂, R2, i2, w2⟩ := zz
  exact wpAny_mono (tgtA_sound B hu O OA FA R2 (v1.mono i2) w2) (fun _ s₃ x => PF.next (x.from (i1.trans i2))) fun _ _ e => e

/-- an int is turned in its place -/
theorem inplace_sound {Pr : Prt} {env : Env} {A : Around} {E : Value → Shared → Prop} {σ : AS} {s : Shared} {op : Operator} {a b : AV} {va vb : Value} {Q : VK} (hop : (op == .Add || op == .Sub) = true) (R : RS C sc Pr env σ s) (ha : VR s.heap a va) (hb : VR s.heap b vb)
    (h : binW op a b (fun n τ => (∃ k, n = .int k) ∧ Q n τ) σ) : wpAny (model C.prog C.w) A (inplaceOp op va vb) (PV C sc Pr env s.heap Q) E s := by
  cases op with
  | Add =>
    delta binW at h; dsimp only at h
    rcases intsR_at ha hb h with ⟨x, y, t, u, rfl, rfl, h⟩ | ⟨c, rfl, h⟩
    · exact AutoIntOps.iadd_0 (PV.pure R _ (.int _ _) h.2)
    · obtain ⟨c', _, l, l', _, _, _, _, h⟩ := refW_inv h
      obtain ⟨⟨k, hk⟩, _⟩ := h _ R.fresh
      cases hk
  | Sub => obtain ⟨x, y, t, u, rfl, rfl, h⟩ := ints_at ha hb (show intsW a b _ from h); exact AutoIntOps.isub_0 (PV.pure R _ (.int _ _) h.2)
  | _ => cases hop

theorem snd_augSub (B : Base C cyc K T Γ d ct) {n : Nat} {o i v : Expr} {mo mi m : ME} {op : Operator} {p q : Pos} (hs : notSlice i = true) (hop : (op == .Add || op == .Sub) = true) (ho : cE Γ n sc o = some mo) (hi : cE Γ n sc i = some mi) (hv : cE Γ n sc v = some m) :
    SndS C cyc T d ct sc (.AugAssign (.Subscript o i p) op v q) (.augSub mo mi op m) := by
  intro Pr env σ s A E Q O hf OA FA R hw hE
  have I := sound_all B n
  refine wpAny_AugAssign_SubscriptAny (thenV (I.e _ _ _ ho _ _ _ _ _ E _ O OA FA R hw) fun ov s₁ ao σ₁ v1 R1 i1 w1 => ?_) (fun ov iv new => by unfold augStore; cases i <;> first | rfl | cases hs)
  refine thenV (I.e _ _ _ hi _ _ _ _ _ E _ O OA FA R1 w1) fun iv s₂ ai σ₂ v2 R2 i2 w2 => ?_
  refine thenV (sub_sound R2 (v1.mono i2) v2 w2) fun old s₃ ad σ₃ v3 R3 i3 w3 => ?_
  refine thenV (I.e _ _ _ hv _ _ _ _ _ E _ O OA FA R3 w3) fun w s₄ aw σ₄ v4 R4 i4 w4 => ?_
  refine thenV (inplace_sound hop R4 (v3.mono i4) v4 w4) fun new s₅ an σ₅ v5 R5 i5 w5 => ?_
  exact wpAny_mono (setItem_sound R5 ((v1.mono i2).mono (i3.trans (i4.trans i5))) (v2.mono (i3.trans (i4.trans i5))) v5 w5) (fun _ s₃ x => PF.next (x.from (i1.trans (i2.trans (i3.trans (i4.trans i5)))))) fun _ _ e => e

theorem snd_augAttr (B : Base C cyc K T Γ d ct) {n : Nat} {o v : Expr} {mo m : ME} {name : Str} {x : String} {op : Operator} {p q : Pos} (hop : (op == .Add || op == .Sub) = true) (ho : cE Γ n sc o = some mo) (hx : Γ.nm name = some x) (hv : cE Γ n sc v = some m) :
    SndS C cyc T d ct sc (.AugAssign (.Attribute o name p) op v q) (.augAttr mo x op m) := by
  intro Pr env σ s A E Q O hf OA FA R hw hE
  have I := sound_all B n
  obtain ⟨rfl, _⟩ := B.nm _ _ hx
  refine wpAny_AugAssign_AttributeAny (thenV (I.e _ _ _ ho _ _ _ _ _ E _ O OA FA R hw) fun ov s₁ ao σ₁ v1 R1 i1 w1 => ?_)
  refine thenV (getAttr_sound B.kin B.tb R1 v1 w1) fun old s₃ ad σ₃ v3 R3 i3 w3 => ?_
  refine thenV (I.e _ _ _ hv _ _ _ _ _ E _ O OA FA R3 w3) fun w s₄ aw σ₄ v4 R4 i4 w4 => ?_
  refine thenV (inplace_sound hop R4 (v3.mono i4) v4 w4) fun new s₅ an σ₅ v5 R5 i5 w5 => ?_
  exact wpAny_mono (setAttr_sound B.kin B.tb R5 (v1.mono (i3.trans (i4.trans i5))) v5 w5) (fun _ s₃ x => PF.next (x.from (i1.trans (i3.trans (i4.trans i5))))) fun _ _ e => e
end
end Mine

end

section
open PySem PySem.W PyProof.Rows PySem.Calls
set_option Elab.async false
set_option backward.match.sparseCases false
set_option maxRecDepth 100000
set_option maxHeartbeats 2000000
namespace Mine

open Classical in
/-- a heap from which some objects are taken out -/
noncomputable def hollow (h : Heap) (X : Addr → Prop) : Heap := { h with objs := h.objs.mapIdx fun i o => if X i then { o with data := .freed } else o }
theorem hollow_none {h : Heap} {X : Addr → Prop} {a : Addr} (hx : X a) : (hollow h X).get? a = none := by
  unfold hollow Heap.get?
  simp only [Array.getElem?_mapIdx, if_pos hx]
  cases h.objs[a]? <;> simp
/-- the addresses of frames -/
def Fr_ (fs : List Env) (F : Addr) : Prop := ∃ e ∈ fs, e.frame = some F

section
variable {C : Cx} {cyc : Addr} {sc : Sc} {Pr : Prt} {env : Env} {σ : AS} {s : Shared} {A : Around} {fs : List Env}

/-- what is known of each open frame -/
def FI (C : Cx) (Pr : Prt) (L : Addr) (fs : List Env) : Prop := ∀ e ∈ fs, e.scope.kind ≠ .module ∧ ∃ F, e.frame = some F ∧ C.s₁.heap.get? F = none ∧ (F = L ∨ ∃ o, Pr F = some o ∧ o.cls = .type "frame" ∧ ∃ es ep, o.data = .dict es ep)

theorem FI.at {F : Addr} (H : FI C Pr env.locals fs) (h : Fr_ fs F) : C.s₁.heap.get? F = none ∧ (F = env.locals ∨ ∃ o, Pr F = some o ∧ o.cls = .type "frame" ∧ ∃ es ep, o.data = .dict es ep) := by
  obtain ⟨e, he, hf⟩ := h
  obtain ⟨_, F', e1, e2, e3⟩ := H e he
  rw [hf] at e1; cases e1
  exact ⟨e2, e3⟩
theorem FI.dict {F : Addr} (H : FI C Pr env.locals fs) (R : RS C sc Pr env σ s) (h : Fr_ fs F) : ∃ o es ep, s.heap.get? F = some o ∧ o.data = .dict es ep := by
  obtain ⟨_, e | ⟨o, a, b, es, ep, d⟩⟩ := H.at h
  · subst e
    obtain ⟨m, ⟨o, es, ep, e, d, _⟩, _⟩ := R.fr.loc
    exact ⟨o, es, ep, e, d⟩
  · obtain ⟨o', e1, e2⟩ := R.prot _ _ a
    exact ⟨o', es, ep, e1, e2.2.1.trans d⟩
theorem FI.fun_ (H : FI C Pr env.locals fs) (R : RS C sc Pr env σ s) {base : Heap} (hb : ∀ F, Fr_ fs F → base.get? F = none) : s.heap.FunFrames base fs := by
  induction fs with
  | nil => trivial
  | cons e es ih =>
    obtain ⟨h0, F, h1, h2, h3⟩ := H e (by simp)
    have hF : Fr_ (e :: es) F := ⟨e, by simp, h1⟩
    obtain ⟨o, xs, ep, e1, e2⟩ := H.dict R hF
    exact ⟨h0, ⟨F, o, h1, hb F hF, e1, fun vs q => by rw [e2] at q; cases q⟩, ih (fun e' he' => H e' (by simp [he'])) fun F ⟨e', he', hf'⟩ => hb F ⟨e', by simp [he'], hf'⟩⟩

/-- the slots of frames are turned, and what matters to nobody -/
theorem RS.turn (R : RS C sc Pr env σ s) (H : FI C Pr env.locals fs) {Y : Addr → Prop} (hY : ∀ b, Y b → ¬ Rel C sc Pr env σ b) (him : ∀ b o, Y b → s.heap.get? b = some o → ¬ Obj.imm o) {h' : Heap} {t : Tok}
    (k1 : ∀ b o, ¬ Fr_ fs b → ¬ Y b → s.heap.get? b = some o → h'.get? b = some o) (k2 : ∀ b o, Fr_ fs b → s.heap.get? b = some o → ∃ sl, h'.get? b = some { o with slots := sl }) :
    RS C sc Pr env σ { s with heap := h', toks := t } ∧ Imm s.heap h' := by
  have i : Imm s.heap h' := fun b o e im => by
    by_cases hf : Fr_ fs b
    · obtain ⟨o', es, ep, e1, e2⟩ := H.dict R hf
      rw [e] at e1; cases e1
      rcases im with ⟨_, xs, n, q⟩ | ⟨_, vs, q⟩ <;> (rw [e2] at q; cases q)
    · by_cases hy : Y b
      · exact (him b o hy e im).elim
      · exact k1 b o hf hy e
  have kp : ∀ b o, ¬ Fr_ fs b → Rel C sc Pr env σ b → s.heap.get? b = some o → h'.get? b = some o := fun b o hf hr e => k1 b o hf (fun y => hY b y hr) e
  refine ⟨⟨R.same_ht _ _, fun a o e => ?_, fun a o e => ?_, fun a o e => ?_, R.disj, ⟨?_, R.fr.locF, fun x hx => ?_, fun x hx => ?_⟩, R.sl⟩, i⟩
  · refine kp a o (fun hf => ?_) (.inl (by rw [e]; nofun)) (R.keep a o e)
    rw [(H.at hf).1] at e; cases e
  · obtain ⟨o', e1, e2⟩ := R.prot a o e
    by_cases hf : Fr_ fs a
    · obtain ⟨sl, e3⟩ := k2 a o' hf e1
      refine ⟨_, e3, e2.1, e2.2.1, fun n => ?_⟩
      rcases (H.at hf).2 with q | ⟨o2, a2, b2, _⟩
      · rw [q] at e; rw [R.fr.locF.2.1] at e; cases e
      · rw [e] at a2; cases a2; exact (n b2).elim
    · exact ⟨o', kp a o' hf (.inr (.inl (by rw [e]; nofun))) e1, e2⟩
  · obtain ⟨ob, e1, e2⟩ := R.trk a o e
    refine ⟨ob, kp a ob (fun hf => ?_) (.inr (.inr (.inl (by rw [e]; nofun)))) e1, e2.mono i⟩
    rcases (H.at hf).2 with q | ⟨o2, a2, b2, _⟩
    · rw [q, R.fr.locF.1] at e; cases e
    · rcases R.disj a o e with ⟨_, y⟩ | ⟨_, y⟩
      · rw [a2] at y; cases y
      · exact y (H.at hf).1
  · obtain ⟨m, ⟨o, es, ep, e, d, r⟩, hm⟩ := R.fr.loc
    have : ∃ o', h'.get? env.locals = some o' ∧ o'.data = o.data := by
      by_cases hf : Fr_ fs env.locals
      · obtain ⟨sl, e3⟩ := k2 _ o hf e; exact ⟨_, e3, rfl⟩
      · exact ⟨o, kp _ o hf (.inr (.inr (.inr (.inl rfl)))) e, rfl⟩
    obtain ⟨o', e', d'⟩ := this
    refine ⟨m, ⟨o', es, ep, e', d'.trans d, r⟩, fun x hx v hv => ?_⟩
    obtain ⟨v', a1, a2⟩ := hm x hx v hv
    exact ⟨v', a1, a2.mono i⟩
  · obtain ⟨c, v', a1, ⟨o, a2, a2'⟩, a3, a4⟩ := R.fr.own x hx
    refine ⟨c, v', a1, ⟨o, kp c o (fun hf => ?_) (.inr (.inr (.inr (.inr ⟨x, hx, a1⟩)))) a2, a2'⟩, a3, fun v hv => by obtain ⟨y, b1, b2⟩ := a4 v hv; exact ⟨y, b1, b2.mono i⟩⟩
    obtain ⟨o2, es, ep, e1, e2⟩ := H.dict R hf
    rw [a2] at e1; cases e1
    rw [a2'] at e2; cases e2
  · obtain ⟨c, o, v', a1, a2, a3, a4⟩ := R.fr.ro x hx
    exact ⟨c, o, v', a1, a2, a3, fun v hv => by obtain ⟨y, b1, b2⟩ := a4 v hv; exact ⟨y, b1, b2.mono i⟩⟩

def NI (cv : Value) : Prop := cv ≠ .type "tuple" ∧ cv ≠ .type "range" ∧ cv ≠ .type "dict_values"
theorem NI.ref (a : Addr) : NI (.ref a) := ⟨nofun, nofun, nofun⟩
theorem NI.tb : NI (.type "traceback") := by refine ⟨?_, ?_, ?_⟩ <;> simp
theorem fields_not_imm {o : Obj} (hc : NI o.cls) : ¬ Obj.imm o := by
  rintro (⟨i, _⟩ | ⟨i | i, _⟩)
  · exact hc.1 i
  · exact hc.2.1 i
  · exact hc.2.2 i

/-- the text's own exception with a traceback: whose frame it is in -/
structure ExcT (fl : Value) (C : Cx) (cv : Value) (sc : Sc) (Pr : Prt) (env : Env) (σ : AS) (h : Heap) (x : Addr) : Prop where
  at_ : ∃ ob vs a0 tb ot tvs, h.get? x = some ob ∧ ob.cls = cv ∧ ob.data = .fields vs ∧ vs[0]? = some a0 ∧ vs[1]? = some (.ref tb) ∧ h.get? tb = some ot ∧ ot.data = .fields tvs ∧ tvs[3]? = some fl ∧ tb ≠ x ∧ ot.cls = .type "traceback" ∧ ¬ Rel C sc Pr env σ tb
  nrel : ¬ Rel C sc Pr env σ x
  ni : NI cv
theorem ExcT.fly {h : Heap} {x : Addr} (X : ExcT .none C (.ref cyc) sc Pr env σ h x) : ExcAt false C cyc sc Pr env σ h x := by
  obtain ⟨⟨ob, vs, a0, tb, ot, tvs, h1, h2, h3, h4, h5, h6, h7, h8, h9, h10, h11⟩, n, _⟩ := X
  exact ⟨⟨ob, vs, a0, h1, h2, h3, h4, .inr ⟨rfl, tb, ot, tvs, h5, h6, h7, h8, h11, h9, h10⟩⟩, n⟩
/-- a new entry of the traceback -/
theorem entry_new {cv : Value} {E : Value → Shared → Prop} {x : Addr} {ob : Obj} {vs : Array Value} {a0 head : Value} {hadNext : Bool} {Q : Unit → Shared → Prop} (R : RS C sc Pr env σ s) (H : FnA A env) (FA : FS C A Pr env.locals)
    (g1 : s.heap.get? x = some ob) (g2 : ob.cls = cv) (hcv : NI cv) (g3 : ob.data = .fields vs) (g4 : vs[0]? = some a0) (hsz : 1 < vs.size) (nx : ¬ Rel C sc Pr env σ x)
    (hQ : ∀ s', RS C sc Pr env σ s' → Imm s.heap s'.heap → ExcT (rawInt env.locals) C cv sc Pr env σ s'.heap x → Q () s') :
    wpAny (model C.prog C.w) A (do let a ← frameOf env; let pl ← entryPlaceOf env.locals hadNext; let b ← EntryCells.newEntry head a .none (rawInt env.locals) .none pl; setField (.ref x) 1 b) Q E s := by
  obtain ⟨outer, hfr⟩ := H.top
  obtain ⟨fs, hfs, HF⟩ := FA
  rw [hfr] at hfs; cases hfs
  have HF : FI C Pr env.locals (env :: outer) := HF
  have hxf : ¬ Fr_ (env :: outer) x := fun hf => by
    obtain ⟨o, es, ep, e1, e2⟩ := HF.dict R hf
    rw [g1] at e1; cases e1; rw [g3] at e2; cases e2
  refine wpAny_bind (wpAny_frameOf_fun (base := hollow s.heap (Fr_ (env :: outer))) hfr (HF.fun_ R fun F hF => hollow_none hF) H.frame fun h₁ hs₁ => ?_)
  refine wpAny_bind (wpAny_entryPlaceOf fun pl hpl => ?_)
  unfold EntryCells.newEntry newFields
  refine wpAny_bind (wpAny_newObj_type ?_ (hpl.sizeOk5 _ _ _ _ _))
  generalize hts : ([head, .ref env.locals, .none, rawInt env.locals, .none] ++ (if pl.isEmpty then List.replicate 6 Value.none else pl)).toArray = ts
  have hts3 : ts[3]? = some (rawInt env.locals) := by rw [← hts]; simp
  have hmem : ∀ b, b ∉ (env :: outer).filterMap (·.frame) ↔ ¬ Fr_ (env :: outer) b := fun b => by
    constructor
    · rintro h ⟨e, he, hf⟩; exact h (List.mem_filterMap.mpr ⟨e, he, hf⟩)
    · rintro h hm; obtain ⟨e, he, hf⟩ := List.mem_filterMap.mp hm; exact h ⟨e, he, hf⟩
  have ge : h₁.get? x = some ob := (hs₁.2.1 x ((hmem x).mpr hxf)).trans g1
  have hTx : h₁.objs.size ≠ x := Nat.ne_of_gt (Heap.lt_size ge)
  have he₂ : (h₁.push { cls := .type "traceback", dict := none, data := .fields ts }).get? x = some ob := Heap.get?_push_of_some _ ge
  refine wpAny_setField he₂ g3 hsz ?_
  have hd₃ := Obj.data_mapFields g3 (·.setIfInBounds 1 (Value.ref h₁.objs.size))
  have he₃ := Heap.get?_update_self (Obj.mapFields (·.setIfInBounds 1 (Value.ref h₁.objs.size))) he₂ (Obj.isFreed_of_fields hd₃)
  have hT₃ := (Heap.get?_update_other (h₁.push { cls := .type "traceback", dict := none, data := .fields ts }) (Obj.mapFields (·.setIfInBounds 1 (Value.ref h₁.objs.size))) (Ne.symm hTx)).trans (Heap.get?_push_size h₁ rfl)
  have keep : ∀ b o, b ≠ x → h₁.get? b = some o → ((h₁.push { cls := .type "traceback", dict := none, data := .fields ts }).update x (Obj.mapFields (·.setIfInBounds 1 (Value.ref h₁.objs.size)))).get? b = some o := fun b o hb e => by
    rw [Heap.get?_update_other _ _ (Ne.symm hb)]; exact Heap.get?_push_of_some _ e
  obtain ⟨R2, i2⟩ := R.turn (t := s.toks) HF (Y := fun b => b = x) (by rintro b rfl; exact nx) (by rintro b o rfl e; rw [g1] at e; cases e; exact fields_not_imm (by rw [g2]; exact hcv))
    (h' := (h₁.push { cls := .type "traceback", dict := none, data := .fields ts }).update x (Obj.mapFields (·.setIfInBounds 1 (Value.ref h₁.objs.size))))
    (fun b o h1 h2 e => keep b o h2 ((hs₁.2.1 b ((hmem b).mpr h1)).trans e))
    (fun b o h1 e => by obtain ⟨sl, e'⟩ := hs₁.2.2 b o e; exact ⟨sl, keep b _ (by rintro rfl; exact hxf h1) e'⟩)
  refine hQ _ R2 i2 ⟨⟨_, _, a0, h₁.objs.size, _, ts, he₃, (Obj.cls_mapFields _ _).trans g2, hd₃, by rw [Array.getElem?_setIfInBounds_ne (by decide)]; exact g4, by simp [hsz], hT₃, rfl, hts3, hTx, rfl, R.nrel ?_⟩, nx, hcv⟩
  cases q : s.heap.get? h₁.objs.size with
  | none => rfl
  | some o => obtain ⟨sl, e'⟩ := hs₁.2.2 _ o q; exact absurd (Heap.lt_size e') (Nat.lt_irrefl _)

/-- the mark of the frame on the traceback is turned -/
theorem flight_set {cv : Value} {E : Value → Shared → Prop} {x : Addr} {fl : Value} {fr : Option Addr} {Q : Unit → Shared → Prop} (R : RS C sc Pr env σ s) (X : ExcT fl C cv sc Pr env σ s.heap x)
    (hQ : ∀ s', RS C sc Pr env σ s' → Imm s.heap s'.heap → ExcT (fr.elim .none fun f => rawInt f) C cv sc Pr env σ s'.heap x → Q () s') : wpAny (model C.prog C.w) A (setFlight (.ref x) fr) Q E s := by
  obtain ⟨⟨ob, vs, a0, T, ot, ts, h1, h2, h3, h4, h5, h6, h7, h8, h9, h10, h11⟩, n, hcv⟩ := X
  unfold setFlight
  refine wpAny_bind (wpAny_field h1 h3 h5 ?_)
  rw [if_pos (show (Value.ref T != Value.none) = true from by simp)]
  have hsz := (Array.getElem?_eq_some_iff.mp h8).1
  refine wpAny_setField h6 h7 hsz ?_
  have hd := Obj.data_mapFields h7 (·.setIfInBounds 3 (fr.elim Value.none fun f => rawInt f))
  have hT := Heap.get?_update_self (Obj.mapFields (·.setIfInBounds 3 (fr.elim Value.none fun f => rawInt f))) h6 (Obj.isFreed_of_fields hd)
  have other : ∀ b, b ≠ T → (s.heap.update T (Obj.mapFields (·.setIfInBounds 3 (fr.elim Value.none fun f => rawInt f)))).get? b = s.heap.get? b := fun b hb => Heap.get?_update_other _ _ (Ne.symm hb)
  have hx : Heap.ExtBut T s.heap (s.heap.update T (Obj.mapFields (·.setIfInBounds 3 (fr.elim Value.none fun f => rawInt f)))) := fun b o hb e => (other b hb).trans e
  have ni : ∀ o, s.heap.get? T = some o → ¬ Obj.imm o := fun o e => by rw [h6] at e; cases e; exact fields_not_imm (by rw [h10]; exact NI.tb)
  refine hQ _ (R.ext1 (t := s.toks) hx h11 ni) (imm_extBut h6 (ni _ h6) hx) ⟨⟨ob, vs, a0, T, _, _, (other x (Ne.symm h9)).trans h1, h2, h3, h4, h5, hT, hd, ?_, h9, (Obj.cls_mapFields _ _).trans h10, h11⟩, n, hcv⟩
  simp [hsz]

/-- an exception as it was made leaves its frame -/
theorem leave_raw {E : Value → Shared → Prop} {x : Addr} {Q : Unit → Shared → Prop} (R : RS C sc Pr env σ s) (H : FnA A env) (FA : FS C A Pr env.locals) (X : ExcAt true C cyc sc Pr env σ s.heap x)
    (hQ : ∀ s', RS C sc Pr env σ s' → Imm s.heap s'.heap → ExcAt false C cyc sc Pr env σ s'.heap x → Q () s') : wpAny (model C.prog C.w) A (leaving env (.ref x)) Q E s := by
  obtain ⟨⟨ob, vs, a0, g1, g2, g3, g4, g5⟩, nx⟩ := X
  have g5 : vs[1]? = some .none := by rcases g5 with ⟨_, g⟩ | ⟨g, _⟩ <;> first | exact g | cases g
  unfold leaving noteFrame
  simp only [H.frame]
  refine wpAny_bind (wpAny_bind (wpAny_field g1 g3 g5 ?_))
  rw [if_neg (by decide)]
  refine entry_new R H FA g1 g2 (NI.ref _) g3 g4 (Array.getElem?_eq_some_iff.mp g5).1 nx fun s₁ R1 i1 X1 => ?_
  exact flight_set (fr := none) R1 X1 fun s₂ R2 i2 X2 => hQ s₂ R2 (i1.trans i2) X2.fly

end
end Mine

end

section
open PySem PySem.W PyProof.Rows PySem.Calls
set_option Elab.async false
set_option backward.match.sparseCases false
set_option maxRecDepth 100000
set_option maxHeartbeats 2000000
namespace Mine

/-- names that are bound, and what they are bound to -/
def BR (h : Heap) : List (Str × Value) → List (String × AV) → Prop := All2 fun p q => p.1 = Str.ofString q.1 ∧ VR h q.2 p.2

theorem BR.names {h : Heap} : ∀ {bs : List (Str × Value)} {as : List (String × AV)}, BR h bs as → ∀ p ∈ bs, ∃ q ∈ as, p.1 = Str.ofString q.1
  | [], [], _, p, hp => by cases hp
  | b :: bs, a :: as, ⟨h1, h2⟩, p, hp => by
    rcases List.mem_cons.mp hp with rfl | hp
    · exact ⟨a, by simp, h1.1⟩
    · obtain ⟨q, hq, e⟩ := BR.names h2 p hp; exact ⟨q, by simp [hq], e⟩

theorem BR.mono {h h' : Heap} (k : Imm h h') : ∀ {bs : List (Str × Value)} {as : List (String × AV)}, BR h bs as → BR h' bs as
  | [], [], _ => trivial
  | b :: bs, a :: as, ⟨h1, h2⟩ => ⟨⟨h1.1, h1.2.mono k⟩, BR.mono k h2⟩

theorem bindL_other {kf : Str → Option NameKind} {x : Str} : ∀ {bs : List (Str × Value)} {m : Str → Option Value}, (∀ p ∈ bs, p.1 ≠ x) → bindL kf bs m x = m x
  | [], _, _ => rfl
  | (n, v) :: r, m, h => by
    unfold bindL
    rw [bindL_other fun p hp => h p (by simp [hp])]
    split
    · dsimp only; rw [if_neg]; exact fun e => h (n, v) (by simp) e.symm
    · rfl
theorem bindC_other {kf : Str → Option NameKind} {x : Str} : ∀ {bs : List (Str × Value)} {m : Str → Option Value}, (∀ p ∈ bs, p.1 ≠ x) → bindC kf bs m x = m x
  | [], _, _ => rfl
  | (n, v) :: r, m, h => by
    unfold bindC
    rw [bindC_other fun p hp => h p (by simp [hp])]
    split
    · rfl
    · dsimp only; rw [if_neg]; exact fun e => h (n, v) (by simp) e.symm

theorem bindL_get {kf : Str → Option NameKind} {h : Heap} {x : String} {v : AV} (hk : kf (Str.ofString x) = some .local) : ∀ {bs : List (Str × Value)} {as : List (String × AV)} {m : Str → Option Value}, BR h bs as → (as.map (·.1)).Nodup → as.lookup x = some v →
    ∃ v', bindL kf bs m (Str.ofString x) = some v' ∧ VR h v v'
  | [], [], m, _, _, e => by cases e
  | (n, w) :: bs, (y, a) :: as, m, ⟨⟨h1, h2⟩, h3⟩, hn, e => by
    rw [List.map_cons, List.nodup_cons] at hn
    simp only at h1 h2
    unfold bindL
    rw [List.lookup_cons] at e
    by_cases q : x = y
    · subst q
      simp only [beq_self_eq_true] at e
      cases e
      refine ⟨w, ?_, h2⟩
      rw [bindL_other]
      · rw [h1, if_pos hk]; simp
      · intro p hp hq
        obtain ⟨r, hr, e⟩ := BR.names h3 p hp
        rw [hq] at e
        have := ofString_inj e
        exact hn.1 (List.mem_map.mpr ⟨r, hr, this.symm⟩)
    · have : (x == y) = false := by simpa using q
      rw [this] at e
      exact bindL_get hk h3 hn.2 e
theorem bindC_get {kf : Str → Option NameKind} {h : Heap} {x : String} {v : AV} (hk : kf (Str.ofString x) = some .cell) : ∀ {bs : List (Str × Value)} {as : List (String × AV)} {m : Str → Option Value}, BR h bs as → (as.map (·.1)).Nodup → as.lookup x = some v →
    ∃ v', bindC kf bs m (Str.ofString x) = some v' ∧ VR h v v'
  | [], [], m, _, _, e => by cases e
  | (n, w) :: bs, (y, a) :: as, m, ⟨⟨h1, h2⟩, h3⟩, hn, e => by
    rw [List.map_cons, List.nodup_cons] at hn
    simp only at h1 h2
    unfold bindC
    rw [List.lookup_cons] at e
    by_cases q : x = y
    · subst q
      simp only [beq_self_eq_true] at e
      cases e
      refine ⟨w, ?_, h2⟩
      rw [bindC_other]
      · rw [h1, if_neg (by rw [hk]; decide)]; simp
      · intro p hp hq
        obtain ⟨r, hr, e⟩ := BR.names h3 p hp
        rw [hq] at e
        have := ofString_inj e
        exact hn.1 (List.mem_map.mpr ⟨r, hr, this.symm⟩)
    · have : (x == y) = false := by simpa using q
      rw [this] at e
      exact bindC_get hk h3 hn.2 e

/-- a def of the text as the heap shows it -/
structure FnOk (C : Cx) (Γ : GT) (cyc : String) (f : Addr) (fn : Fn) : Prop where
  ex : ∃ o fd body sc n, And14 (C.s₁.heap.get? f = some o) (o.data = .func fd) (fd.scope.isCoroutine = false) (fd.scope.isGenerator = false) (fd.body = .stmts body) (C.s₁.heap.CodeRec fd.code fd.qualname) (fd.globals = mainGlobals) (fd.builtins = builtinsNs) (fd.closure = []) (fd.scope.kind = .function) (compSc Γ fd.scope.names = some sc) (sc.ro = []) (fn.body = cSs Γ cyc n sc body) (∀ (args : List AV) (bs : List (String × AV)) (vals : List Value) (s : Shared), (∀ a o, C.s₁.heap.get? a = some o → s.heap.get? a = some o) → VRs s.heap args vals → bindArgsA fn args = some bs →
      (bs.map (·.1)).Nodup ∧ (∀ p ∈ bs, p.1 ∈ sc.loc ∨ p.1 ∈ sc.own) ∧
      ∀ (M : Model) (A : Around) (E : Value → Shared → Prop) (Q : List (Str × Value) → Shared → Prop), (∀ binds h', (∀ b o, s.heap.get? b = some o → h'.get? b = some o) → BR h' binds bs → Q binds { s with heap := h' }) →
        wpAny M A (bindArgs fd ⟨vals, []⟩) Q E s)

section
variable {C : Cx} {cyc : Addr} {K : Frag} {T : Tb} {Γ : GT} {cycS : String}

theorem frame_rel {sc sc' : Sc} {Pr : Prt} {env env' : Env} {σ τ : AS} {s : Shared} (R : RS C sc Pr env σ s) {x : Addr} (h : ¬ Rel C sc' (Pr.frame sc env s.heap) env' τ x) : ¬ Rel C sc Pr env ⟨σ.loc, τ.heap⟩ x := by
  have own : ∀ a, OwnAt sc env a → Pr.frame sc env s.heap a ≠ none := fun a n => by
    obtain ⟨o, e⟩ := (R.own_free n).2
    obtain ⟨o', e', _⟩ := frame_own Pr n e
    rw [e']; nofun
  rintro (q | q | q | q | q)
  · exact h (.inl q)
  · cases e : Pr x with
    | none => exact q e
    | some o => exact h (.inr (.inl (by rw [frame_some R e]; nofun)))
  · exact h (.inr (.inr (.inl q)))
  · exact h (.inr (.inl (own x (.inl q))))
  · exact h (.inr (.inl (own x (.inr q))))

/-- a def's own environment -/
theorem enter_def (nm : ∀ x y, Γ.nm x = some y → Str.ofString y = x ∧ (x == ("__classdict__" : Str)) = false) {scope : Scope} {sc' : Sc} (f10 : scope.kind = .function) (f11 : compSc Γ scope.names = some sc') (f12 : sc'.ro = []) {gl bt : Addr} (f7 : gl = mainGlobals) (f8 : bt = builtinsNs)
    {Pr : Prt} {H : Hp} {bs : List (String × AV)} {binds : List (Str × Value)} {s : Shared} {M : Model} {A : Around} {E : Value → Shared → Prop} {Q : Env → Shared → Prop} {qual : Str} {func : Option Addr} {code : Value}
    (b1 : (bs.map (·.1)).Nodup) (b2 : ∀ p ∈ bs, p.1 ∈ sc'.loc ∨ p.1 ∈ sc'.own) (br : BR s.heap binds bs) (fr : ∀ a, s.heap.objs.size ≤ a → Free C Pr H a)
    (k : ∀ env' s₂, EnvOk sc' env' → env'.frame = some env'.locals → env'.scope = scope → (∀ b o, s.heap.get? b = some o → s₂.heap.get? b = some o) → (∃ h t, s₂ = { s with heap := h, toks := t }) → Fm C sc' Pr env' ⟨fun x => bs.lookup x, H⟩ s₂.heap → Q env' s₂) :
    wpAny M A (newFunctionEnv scope gl [] binds qual func code none bt) Q E s := by
  have CO := comp_ok nm f11
  have hz : (s.heap.push { cls := .type "frame", data := .dict #[] }).objs.size = s.heap.objs.size + 1 := Heap.size_push ..
  have cnew := cells_new scope.names (s.heap.push { cls := .type "frame", data := .dict #[] }) [] CO.nodup
  have cinj := cells_inj scope.names (s.heap.push { cls := .type "frame", data := .dict #[] }) [] CO.nodup (fun x _ _ => rfl) (fun x c e => by cases e) (fun x y c e => by cases e)
  rw [hz] at cnew cinj
  have at_ : ∀ {x : String} {k : NameKind}, (Str.ofString x, k) ∈ scope.names → scope.names.lookup (Str.ofString x) = some k := fun h => lookup_of_mem CO.nodup h
  refine wpAny_newFunctionEnv_cells f10 (fun p hp => ?_) fun env' he s₂ IC => ?_
  · obtain ⟨q, hq, e⟩ := br.names p hp
    rw [e]
    rcases b2 q hq with hl | hl
    · exact .inl (at_ (CO.loc _ hl))
    · obtain ⟨c, c1, _⟩ := (cnew (Str.ofString q.1)).1 (CO.own _ hl)
      exact .inr ⟨at_ (CO.own _ hl), by rw [c1]; rfl⟩
  · have e_loc : env'.locals = s.heap.objs.size := by rw [he]; rfl
    have e_cells : env'.cells = cellsFrom (s.heap.objs.size + 1) scope.names [] := by rw [he]; rfl
    have e_kind : ∀ x, env'.kindOf x = scope.names.lookup x := fun x => by rw [he]; rfl
    have e_scope : env'.scope = scope := by rw [he]; rfl
    have e_frame : env'.frame = some env'.locals := by rw [he]; rfl
    have e_glob : env'.globals = mainGlobals := by rw [he]; exact f7
    have e_blt : env'.builtins = builtinsNs := by rw [he]; exact f8
    clear he
    have no : ∀ x, x ∉ sc'.ro := fun x h => by rw [f12] at h; cases h
    have k2 : ∀ b o, s.heap.get? b = some o → s₂.heap.get? b = some o := IC.toInCall.keep
    have br2 : BR s₂.heap binds bs := br.mono (.of_keeps k2)
    refine k env' s₂ ⟨by rw [e_scope]; exact f10, e_glob, e_blt, fun x hx => (e_kind _).trans (at_ (CO.loc x hx)), fun x hx => (e_kind _).trans (at_ (CO.own x hx)), fun x hx => (no x hx).elim, fun x hx => (e_kind _).trans (at_ (CO.gl x hx)), fun x y c h1 h2 => cinj x y c (e_cells ▸ h1) (e_cells ▸ h2), fun x hx => ⟨fun h => ?_, no x⟩, fun x _ => no x⟩ e_frame e_scope k2 IC.toInCall.same ⟨⟨_, IC.toInCall.ns, fun x hx v hv => ?_⟩, ?_, fun x hx => ?_, fun x hx => (no x hx).elim⟩
    · have := (at_ (CO.loc x hx)).symm.trans (at_ (CO.own x h)); cases this
    · exact bindL_get ((e_kind _).trans (at_ (CO.loc x hx))) br2 b1 hv
    · rw [e_loc]; exact fr _ (Nat.le_refl _)
    · obtain ⟨c, c1, c2, c3⟩ := (cnew (Str.ofString x)).1 (CO.own x hx)
      have hc : env'.cells.lookup (Str.ofString x) = some c := e_cells ▸ c1
      exact ⟨c, _, hc, IC.cell _ _ hc, fr c (Nat.le_trans (Nat.le_succ _) c2), fun v hv => bindC_get ((e_kind _).trans (at_ (CO.own x hx))) br2 b1 hv⟩

theorem call_step {d : Nat} (ck : CxOk C) (nm : ∀ x y, Γ.nm x = some y → Str.ofString y = x ∧ (x == ("__classdict__" : Str)) = false) (fn_ok : ∀ f fn, T.fn f = some fn → FnOk C Γ cycS f fn)
    (hs : ∀ n sc sts, SndSs C cyc T d (callW T d) sc sts (cSs Γ cycS n sc sts)) : CallSnd C cyc (d + 1) (callW T (d + 1)) := by
  intro f args vals Q X sc Pr env σ s A O OC FA R hv hw
  obtain ⟨fn, bs, hT, hb, hw⟩ := hw
  obtain ⟨o, fd, body, sc', n, f1, f2, f3, f4, f5, f6, f7, f8, f9, f10, f11, f12, f13, f14⟩ := (fn_ok f fn hT).ex
  refine ⟨⟨o, fd, f1, f2⟩, ?_⟩
  obtain ⟨b1, b2, b3⟩ := f14 args bs vals s R.keep hv hb
  have hdep := OC.depth
  refine codeAny_call_function (by unfold recursionLimit; omega) (R.keep _ _ f1) f2 f3 f4 f5 (f6.keeps R.keep) (b3 _ _ _ _ fun binds h₁ k1 br => ?_)
  rw [f9]
  have fresh : ∀ a, h₁.objs.size ≤ a → s.heap.get? a = none := fun a ha => by
    cases q : s.heap.get? a with
    | none => rfl
    | some o => exact absurd (Heap.lt_size (k1 _ _ q)) (Nat.not_lt.mpr ha)
  have fr : ∀ a, h₁.objs.size ≤ a → Free C (Pr.frame sc env s.heap) σ.heap a := fun a ha => by
    have nr := R.nrel (fresh a ha)
    refine ⟨?_, ?_, ?_⟩
    · cases q : σ.heap a with
      | none => rfl
      | some x => exact (nr (.inr (.inr (.inl (by rw [q]; nofun))))).elim
    · rw [frame_other _ _ (fun n => nr (n.elim (fun e => .inr (.inr (.inr (.inl e)))) fun e => .inr (.inr (.inr (.inr e)))))]
      exact R.nopr (fresh a ha)
    · cases q : C.s₁.heap.get? a with
      | none => rfl
      | some x => exact (nr (.inl (by rw [q]; nofun))).elim
  refine enter_def nm f10 f11 f12 f7 f8 b1 b2 br fr fun env' s₂ O' e_frame e_scope k2 hs2 F' => ?_
  · obtain ⟨h2, tk, hs2⟩ := hs2
    have k02 : ∀ b o, s.heap.get? b = some o → s₂.heap.get? b = some o := fun b o e => k2 _ _ (k1 _ _ e)
    have hs3 : s₂ = { s with heap := s₂.heap, toks := s₂.toks } := by rw [hs2]
    have R2 : RS C sc' (Pr.frame sc env s.heap) env' ⟨fun x => bs.lookup x, σ.heap⟩ s₂ := by
      rw [hs3]; exact R.enter k02 F'
    have i2 : Imm s.heap s₂.heap := .of_keeps k02
    refine ⟨(ck.nolimit.keeps R2.keep), codeAny_func ?_⟩
    obtain ⟨fs, hfs, HF⟩ := FS.inner R FA env'.locals
    have hA : (A.deeper env').frames = some (env' :: fs) := by show A.frames.map _ = _; rw [hfs]; rfl
    have FA' : FS C (A.deeper env') (Pr.frame sc env s.heap) env'.locals := by
      refine ⟨env' :: fs, hA, fun e he => ?_⟩
      rcases List.mem_cons.mp he with rfl | he
      · exact ⟨by rw [e_scope, f10]; decide, _, e_frame, R2.fr.locF.2.2, .inl rfl⟩
      · exact HF e he
    have OA' : OkA (d + 1) (A.deeper env') := by
      refine ⟨OC.handled, ?_, ?_, ⟨env', fs, hA, by rw [e_scope]; exact f4, by rw [e_scope]; exact f3, O'.blt, O'.glob⟩⟩
      · show A.depth + 1 + _ < _; omega
      · have := OC.units; show A.units + 3 + _ < _; omega
    have HA : FnA (A.deeper env') env' := ⟨e_frame, fs, hA⟩
    rw [f13] at hw
    refine wpAny_mono (hs n sc' body _ _ _ _ _ _ _ O' HA OA' FA' R2 hw ?_) ?_ fun _ _ e => e
    · rintro e s' ⟨x, τ, e1, R3, i3, X3, q⟩
      subst e1
      refine leave_raw R3 HA FA' X3 fun s'' R4 i4 X4 => ?_
      have i5 := i2.trans (i3.trans i4)
      refine ⟨x, _, rfl, R.leave R4 i5, i5, ?_, q⟩
      obtain ⟨⟨ob, vs, a0, h1, h2, h3, h4, h5⟩, n⟩ := X4
      refine ⟨⟨ob, vs, a0, h1, h2, h3, h4, h5.imp id fun ⟨a, tb, ot, tvs, g1, g2, g3, g4, g5, g6⟩ => ⟨a, tb, ot, tvs, g1, g2, g3, g4, frame_rel R g5, g6⟩⟩, frame_rel R n⟩
    · rintro fl s' ⟨af, τ, frl, R3, i3, q⟩
      have i5 := i2.trans i3
      have R4 := R.leave R3 i5
      cases frl with
      | next => exact ⟨.none, _, .none, R4, i5, q⟩
      | ret hv => exact ⟨_, _, hv, R4, i5, q⟩
      | brk => exact q.elim
      | cont => exact q.elim
end
end Mine

end

section
open PySem PySem.W PyProof.Rows PySem.Calls
set_option Elab.async false
set_option backward.match.sparseCases false
set_option maxRecDepth 100000
set_option maxHeartbeats 2000000
namespace Mine

structure ExcOk (C : Cx) (cyc : Addr) (cycS : String) : Prop where
  ld : ∀ (M : Model) (A : Around) (E : Value → Shared → Prop) (Q : Value → Shared → Prop) (env : Env) (s : Shared),
    env.scope.kind = .function → env.globals = mainGlobals → env.builtins = builtinsNs → env.kindOf (Str.ofString cycS) = some .globalImplicit → (∀ a o, C.s₁.heap.get? a = some o → s.heap.get? a = some o) → Q (.ref cyc) s →
    wpAny M A (loadName env (Str.ofString cycS)) Q E s
  nd : (Str.ofString cycS == ("__debug__" : Str)) = false
  obj : ∃ B newId initId bmB mg, ExcBaseFacts B newId initId bmB ∧ OwnCls (Str.ofString cycS) cyc bmB newId mg C.s₁.heap
  stop : ∀ (M : Model) (A : Around) (E : Value → Shared → Prop) (Q : Value → Shared → Prop) (env : Env) (s : Shared),
    env.scope.kind = .function → env.globals = mainGlobals → env.builtins = builtinsNs → env.kindOf (Str.ofString "StopIteration") = some .globalImplicit → (∀ a o, C.s₁.heap.get? a = some o → s.heap.get? a = some o) → Q (.type "StopIteration") s →
    wpAny M A (loadName env (Str.ofString "StopIteration")) Q E s

section
variable {C : Cx} {cyc : Addr} {K : Frag} {T : Tb} {Γ : GT} {d : Nat} {ct : CT} {sc : Sc} {cycS : String}

end
end Mine

end

section
open PySem PySem.W PyProof.Rows PySem.Calls
set_option Elab.async false
set_option backward.match.sparseCases false
set_option maxRecDepth 100000
set_option maxHeartbeats 2000000
namespace Mine

theorem bound_next (it : Addr) : checkBoundCall "list_iterator.__next__" ⟨[.ref it], []⟩ = pure () := by kernel_rfl

section
variable {prog : Program} {w : World} {A : Around} {E : Value → Shared → Prop} {s : Shared}
/-- a bound __next__ is called -/
theorem call_next {nx it : Addr} {Q : Value → Shared → Prop} (hn : s.heap.get? nx = some { cls := .type "method-wrapper", data := .fields #[.builtin "list_iterator.__next__", .ref it] })
    (h : wpAny (model prog w) A.in1 (Builtin.«list_iterator.__next__» ⟨[.ref it], []⟩) (fun fin s' => ∃ v, fin = .done (.ret v) ∧ Q v s') E s) : wpAny (model prog w) A (call (.ref nx) []) Q E s := by
  refine wpAny_call (codeAny_of_tree ?_)
  show wpAny _ _ (callAny (.ref nx) ⟨[], []⟩) _ _ _
  unfold callAny
  refine wpAny_bind (wpAny_load hn ?_)
  dsimp only
  rw [if_pos (by decide)]
  show wpAny _ _ (checkBoundCall "list_iterator.__next__" ⟨[.ref it], []⟩ >>= fun _ => again (.builtin "list_iterator.__next__" ⟨[.ref it], []⟩)) _ _ _
  rw [bound_next]
  refine wpAny_bind (wpAny_pure (wpAny_pure ⟨plainId_quiet slot_listiter_next.plain _, codeAny_builtin entry_listiter_next ?_⟩))
  rw [Around.under_plainId slot_listiter_next.plain _]
  exact wpAny_mono h (fun fin s' ⟨v, e, q⟩ => by subst e; exact q) fun _ _ e => e

theorem next_item {it l : Addr} {i : Nat} {items : Array Value} {x : Value} {o : Obj} {Q : PySem.Fin → Shared → Prop} (ho : s.heap.get? it = some o) (hd : o.data = .fields #[.ref l, .int i 0]) (hl : s.heap.IsList l items) (hx : items[i]? = some x)
    (hQ : ∀ h' o', h'.get? it = some o' → o'.cls = o.cls → o'.dict = o.dict → o'.slots = o.slots → o'.data = .fields #[.ref l, .int ((i + 1 : Nat) : Int) 0] → Heap.SameBut it s.heap h' → Q (.done (.ret x)) { s with heap := h' }) :
    wpAny (model prog w) A (Builtin.«list_iterator.__next__» ⟨[.ref it], []⟩) Q E s := by
  obtain ⟨ol, hol, _, nl, hdl⟩ := hl
  show wpAny _ _ (field (.ref it) 0 >>= _) _ _ s
  refine wpAny_bind (wpAny_field ho hd (x := .ref l) rfl ?_)
  show wpAny _ _ (if (Value.ref l == Value.none) = true then _ else _) _ _ s
  rw [if_neg (show ¬ ((Value.ref l == Value.none) = true) from Bool.false_ne_true)]
  show wpAny _ _ (field (.ref it) 1 >>= _) _ _ s
  refine wpAny_bind (wpAny_field ho hd (x := .int i 0) rfl ?_)
  show wpAny _ _ (seqItems? (.ref l) >>= _) _ _ s
  refine wpAny_bind (wpAny_seqItems hol hdl ?_)
  simp only [Int.toNat_natCast, hx]
  obtain ⟨oc, od, da, os⟩ := o
  simp only at hd
  subst hd
  refine wpAny_bind (wpAny_setField ho rfl (by simp) (wpAny_pure (hQ _ _ (Heap.get?_update_self _ ho rfl) rfl rfl rfl ?_ (Heap.SameBut.update ..))))
  simp [Obj.mapFields, rawInt]

theorem next_end {it l : Addr} {i : Nat} {items : Array Value} {o : Obj} {Q : PySem.Fin → Shared → Prop} (hh : A.handled = none) (ho : s.heap.get? it = some o) (hd : o.data = .fields #[.ref l, .int i 0]) (hl : s.heap.IsList l items) (hx : items[i]? = none)
    (hE : ∀ h' o' e oe vs a0, h'.get? it = some o' → o'.cls = o.cls → Heap.ExtBut it s.heap h' → s.heap.get? e = none → h'.get? e = some oe → oe.cls = .type "StopIteration" → oe.data = .fields vs → vs[0]? = some a0 → vs[1]? = some .none → E (.ref e) { s with heap := h' }) :
    wpAny (model prog w) A (Builtin.«list_iterator.__next__» ⟨[.ref it], []⟩) Q E s := by
  obtain ⟨ol, hol, _, nl, hdl⟩ := hl
  show wpAny _ _ (field (.ref it) 0 >>= _) _ _ s
  refine wpAny_bind (wpAny_field ho hd (x := .ref l) rfl ?_)
  show wpAny _ _ (if (Value.ref l == Value.none) = true then _ else _) _ _ s
  rw [if_neg (show ¬ ((Value.ref l == Value.none) = true) from Bool.false_ne_true)]
  show wpAny _ _ (field (.ref it) 1 >>= _) _ _ s
  refine wpAny_bind (wpAny_field ho hd (x := .int i 0) rfl ?_)
  show wpAny _ _ (seqItems? (.ref l) >>= _) _ _ s
  refine wpAny_bind (wpAny_seqItems hol hdl ?_)
  simp only [Int.toNat_natCast, hx]
  refine wpAny_bind (wpAny_rule (wpAny_bind (wpAny_setField ho hd (by simp) ?_)))
  show wpAny _ _ (newExc (.type "StopIteration") [] >>= _) _ _ _
  refine wpAny_bind ?_
  simp only [newExc, newTuple]
  refine wpAny_bind (wpAny_newObj_type ?_ (by size_fits))
  refine wpAny_bind (m := firstArgMember _ _) (wpAny_of_eq (a := Value.none) (by first | rfl | (simp only [firstArgMember]; rfl)) ?_)
  refine wpAny_newObj_type ?_ (by size_fits)
  simp only [raiseNew]
  refine wpAny_bind (wpAny_handled ?_)
  rw [hh]
  refine wpAny_bind (wpAny_pure (wpAny_throw ?_))
  refine hE _ (Obj.mapFields (·.setIfInBounds 0 Value.none) o) _ _ _ _ ?_ (Obj.cls_mapFields _ _) (((Heap.SameBut.update ..).extBut.push _).push _) ?_ (Heap.get?_push_size _ rfl) rfl rfl (by rw [Array.getElem?_append_left (by simp)]; rfl) (by rw [Array.getElem?_append_left (by simp)]; rfl)
  · exact Heap.get?_push_of_some _ (Heap.get?_push_of_some _ (Heap.get?_update_self _ ho (Obj.isFreed_of_fields (Obj.data_mapFields hd _))))
  · refine get_ge ?_
    rw [Heap.size_push, Heap.size_update]; exact Nat.le_succ _
end
end Mine

end

section
open PySem PySem.W PyProof.Rows PySem.Calls
set_option Elab.async false
set_option backward.match.sparseCases false
set_option maxRecDepth 100000
set_option maxHeartbeats 2000000
namespace Mine
theorem stop_exc : isSubtype (.type "StopIteration") (.type "BaseException") = pure true := by rw [isSubtype_type]; kernel_rfl
theorem stop_nt : isSubtype (.type ((Manifest.find? "StopIteration").elim "type" fun x => x.metatype)) (.type "tuple") = pure false := by rw [isSubtype_type]; kernel_rfl
theorem stop_self : isSubtype (.type "StopIteration") (.type "StopIteration") = pure true := by rw [isSubtype_type]; kernel_rfl

section
variable {C : Cx} {cyc : Addr} {sc : Sc} {Pr : Prt} {env : Env} {σ : AS} {s : Shared} {A : Around} {E : Value → Shared → Prop}

theorem KV.without {h : Heap} {l : List (Int × AV)} {kvs : List (Int × Value)} (x : KV h l kvs) (k : Int) : KV h (l.filter fun p => p.1 != k) (PySem.without kvs k) := by
  induction x with
  | nil => exact .nil
  | @cons j y v l vs a _ ih =>
    unfold PySem.without at ih ⊢
    by_cases q : j = k
    · subst q; simpa using ih
    · simpa [q] using KV.cons a ih

theorem delDict_sound (K : CxOk C) (R : RS C sc Pr env σ s) {a : Addr} {l : List (Int × AV)} {ep : Nat} {k : Int} {t : Tok} {P : AS → Prop} (e : σ.heap a = some (.dict l ep)) (hl : l.length < 1000000) (hk : (l.lookup k).isSome = true)
    (h : ∀ ep', P (σ.ins a (.dict (l.filter fun p => p.1 != k) ep'))) : wpAny (model C.prog C.w) A (delItem (.ref a) (.int k t)) (PU C sc Pr env s.heap P) E s := by
  obtain ⟨kvs, hd, hkv⟩ := R.dict e
  have hD := dictOf_of_at hd
  unfold delItem
  try with_reducible refine wpAny_holding ?_
  refine wpAny_bind (wpAny_sequenceKey hD.typeIs (by decide) ?_)
  refine wpAny_bind (wpAny_callSpecial?_slot (name := Str.ofString "__delitem__") hD.typeIs PySem.F.slot_dict_delitem
    (call_meetsIn PySem.F.slot_dict_delitem hD.typeIs PySem.F.entry_dict_delitem (PySem.F.args_dict_delitem_2 _ _) (meets_dict_delitem_pairs (intKind C.prog C.w) a (intKind_is _ _ k t)) ⟨kvs, hD, (by rw [hkv.length]; unfold sizeLine; omega), by rw [← (hkv.get k).isSome]; exact hk, fun h' hmm hs => ?_⟩))
  have hi := R.put_imm hs.extBut (.inl ⟨_, e, by nofun⟩)
  obtain ⟨o, es, ep', ho, hx, hdd, h2, h3, h4⟩ := hmm
  exact wpAny_pure ⟨_, R.put (o := .dict _ ep') hs.extBut ho ⟨hx, es, _, hdd, h2, h3, h4, (hkv.without k).mono hi⟩ (.inl ⟨_, e, by nofun⟩), hi, h _⟩

theorem note_raw {cv : Value} {x : Addr} {ob : Obj} {vs : Array Value} {a0 : Value} {Q : Unit → Shared → Prop} (R : RS C sc Pr env σ s) (H : FnA A env) (FA : FS C A Pr env.locals) (g1 : s.heap.get? x = some ob) (g2 : ob.cls = cv) (hcv : NI cv) (g3 : ob.data = .fields vs) (g4 : vs[0]? = some a0)
    (g5 : vs[1]? = some .none) (nx : ¬ Rel C sc Pr env σ x)
    (hQ : ∀ s', RS C sc Pr env σ s' → Imm s.heap s'.heap → ExcT (rawInt env.locals) C cv sc Pr env σ s'.heap x → Q () s') : wpAny (model C.prog C.w) A (noteFrame (.ref x) env) Q E s := by
  unfold noteFrame
  simp only [H.frame]
  refine wpAny_bind (wpAny_field g1 g3 g5 ?_)
  rw [if_neg (by decide)]
  exact entry_new R H FA g1 g2 hcv g3 g4 (Array.getElem?_eq_some_iff.mp g5).1 nx hQ

end
end Mine

end

section
open PySem PySem.W PyProof.Rows PySem.Calls
set_option Elab.async false
set_option backward.match.sparseCases false
set_option maxRecDepth 100000
set_option maxHeartbeats 2000000
namespace Mine
section
variable {C : Cx} {cyc : Addr} {K : Frag} {T : Tb} {Γ : GT} {d : Nat} {ct : CT} {sc : Sc} {Pr : Prt} {env : Env} {σ : AS} {s : Shared} {A : Around} {E : Value → Shared → Prop}

theorem seen_of (B : Base C cyc K T Γ d ct) {x : Str} {y : String} (h : Γ.seen sc x = some y) : Str.ofString y = x ∧ (y ∈ sc.loc ∨ y ∈ sc.own ∨ y ∈ sc.ro) ∧ (x == ("__debug__" : Str)) = false ∧ (x == ("__classdict__" : Str)) = false := by
  unfold GT.seen at h
  split at h
  · cases h
  · rename_i hd
    split at h
    · rename_i z hz
      split at h
      · rename_i hin
        cases h
        obtain ⟨rfl, hc⟩ := B.nm _ _ hz
        exact ⟨rfl, by simpa [or_assoc] using hin, by simpa using hd, hc⟩
      · cases h
    · cases h

theorem var_sound (B : Base C cyc K T Γ d ct) (O : EnvOk sc env) (R : RS C sc Pr env σ s) {x : Str} {y : String} {p : Pos} {v : AV} (hs : Γ.seen sc x = some y) (hv : σ.loc y = some v) {k : Value → Shared → Prop} (h : ∀ u, VR s.heap v u → k u s) :
    wpAny (model C.prog C.w) A (eval (.Name x p) env) k E s := by
  obtain ⟨rfl, hin, h1, h2⟩ := seen_of B hs
  refine wpAny_Name ?_ h1
  rcases hin with hx | hx | hx
  · obtain ⟨m, hm, hr⟩ := R.fr.loc
    obtain ⟨v', e1, e2⟩ := hr _ hx v hv
    exact wpAny_loadName_local O.kind (O.loc _ hx) hm e1 (h _ e2)
  · obtain ⟨c, v', a1, a2, a3, a4⟩ := R.fr.own _ hx
    obtain ⟨u, rfl, b2⟩ := a4 v hv
    exact wpAny_loadName_cell O.kind (O.own _ hx) a1 a2 (h _ b2)
  · obtain ⟨c, o, v', a1, a2, a3, a4⟩ := R.fr.ro _ hx
    obtain ⟨o', b1, b2⟩ := R.prot _ _ a2
    obtain ⟨u, rfl, a5⟩ := a4 v hv
    have hc : s.heap.IsCell c (some u) := ⟨o', b1, by rw [b2.2.1]; exact a3⟩
    rcases O.ro _ hx with hk | hk
    · exact wpAny_loadName_cell O.kind hk a1 hc (h _ a5)
    · exact wpAny_loadName_free O.kind hk a1 hc (h _ a5) h2

/-- a list's last item is taken by a call of its pop -/
theorem pop_sound (B : Base C cyc K T Γ d ct) (O : EnvOk sc env) (R : RS C sc Pr env σ s) {x : String} {xs : Str} {p q r : Pos} {a : Addr} {l : List AV} {v : AV} {Q : VK} (hx : Γ.seen sc xs = some x) (hl : (r.endLine == q.line) = true)
    (e1 : σ.loc x = some (.ref a)) (e2 : σ.heap a = some (.list (l ++ [v]))) (hlen : l.length < 900000) (h : Q v (σ.ins a (.list l))) :
    wpAny (model C.prog C.w) A (eval (.Call (.Attribute (.Name xs p) (Str.ofString "pop") r) [] [] q) env) (PV C sc Pr env s.heap Q) E s := by
  refine meth_head rfl hl (by simp) (by simp) (var_sound B O R hx e1 fun u hu => fun pl => ?_)
  obtain rfl := hu.ref_inv
  obtain ⟨vs, n, g1, g2⟩ := R.list e2
  have hd : ∀ b, (Value.ref a) = .ref b → ∃ o, s.heap.get? b = some o ∧ o.dict = none := fun b q => by cases q; exact ⟨_, g1, rfl⟩
  refine getMethod_builtin (T := "list") ⟨_, g1, rfl⟩ F.plainAttrs_list F.slot_list_pop F.type_list_pop hd ?_
  refine callWith_builtin rfl (evalArgs_nil3 ?_)
  have hb : biMethW a (.list (l ++ [v])) "pop" [] Q σ := by
    unfold biMethW
    refine ⟨by simp; omega, ?_⟩
    rw [if_neg (by decide), if_neg (by decide), if_pos rfl]
    exact .inl ⟨rfl, l, v, rfl, h⟩
  exact listMeth_sound (m := "pop") (vs := []) R e2 .nil hb

theorem callWith_next {nx it : Addr} {pos : Pos} {Q : Value → Shared → Prop} (hn : s.heap.get? nx = some { cls := .type "method-wrapper", data := .fields #[.builtin "list_iterator.__next__", .ref it] })
    (h : wpAny (model C.prog C.w) A (call (.ref nx) []) Q E s) : wpAny (model C.prog C.w) A (callWith pos (.ref nx) [] [] []) Q E s := by
  unfold callWith
  refine wpAny_bind (wpAny_holding (evalArgs_nil3 (wpAny_bind (wpAny_standAt ?_))))
  refine wpAny_bind (m := keeperOf (.ref nx)) ?_
  unfold keeperOf
  refine wpAny_bind (wpAny_load hn ?_)
  dsimp only
  rw [if_pos (by decide)]
  refine wpAny_pure ?_
  rw [if_pos (by decide)]
  exact wpAny_bind (wpAny_mono h (fun r s₂ hr => wpAny_bind (wpAny_holding (wpAny_point (wpAny_pure hr)))) fun _ _ x => x)
end
end Mine

end

section
open PySem PySem.W PyProof.Rows PySem.Calls
set_option Elab.async false
set_option backward.match.sparseCases false
set_option maxRecDepth 100000
set_option maxHeartbeats 2000000
namespace Mine
section
variable {C : Cx} {cyc : Addr} {K : Frag} {T : Tb} {Γ : GT} {d : Nat} {ct : CT} {sc : Sc} {cycS : String}

theorem gen_E {α : Type} {M : Model} {A : Around} {x : Sem α} {Q : α → Shared → Prop} {E : Value → Shared → Prop} {s : Shared} (h : ∀ E', E' = E → wpAny M A x Q E' s) : wpAny M A x Q E s := h E rfl
theorem snd_tryNext (B : Base C cyc K T Γ d ct) (X : ExcOk C cyc cycS) {x its dn st : Str} {x' i' d' s' : String} {p1 p2 p3 p4 p5 p6 p7 p8 p9 p10 p11 p12 p13 p14 p15 p16 p17 a1 q1 a2 q2 : Pos} {k : Nat}
    (hx : Γ.kept sc x = some x') (hi : Γ.seen sc its = some i') (hd : Γ.seen sc dn = some d') (hs : Γ.seen sc st = some s') (hg : "StopIteration" ∈ sc.gl) (h1 : (a1.endLine == q1.line) = true) (h2 : (a2.endLine == q2.line) = true) :
    SndS C cyc T d ct sc (.Try [.Assign [.Name x p1] (.Call (.Subscript (.Name its p2) (.UnaryOp .USub (.Constant (.int 1) k p3) p4) p5) [] [] p6) p7, .Break p8]
        [.ExceptHandler (some (.Name (Str.ofString "StopIteration") p9)) none [.Delete [.Subscript (.Name dn p10) (.Call (.Attribute (.Name st p11) (Str.ofString "pop") a1) [] [] q1) p12] p13, .Expr (.Call (.Attribute (.Name its p14) (Str.ofString "pop") a2) [] [] q2) p15] p16] [] [] p17)
      (.tryNext x' i' d' s') := by
  intro Pr env σ s A E Q O HA OA FA R hw hE
  obtain ⟨ia, l', nx, it, la, i, items, e1, e2, e3, e4, e5, e6, e7, hw⟩ := hw
  obtain ⟨hxe, hin⟩ := kept_of B hx
  subst hxe
  refine wpAny_Try_except (wpAny_execs_cons ?_)
  refine gen_E fun EE hEE => ?_
  rw [exec_Assign_arm]
  refine wpAny_bind (wpAny_standAt (wpAny_bind (wpAny_pure ?_)))
  rw [if_neg (by decide)]
  have hsub : evalW T ct (.sub (.var i') (.neg (.const (.int 1)))) (fun v τ => v = .ref nx ∧ τ = σ) σ := by
    refine ⟨_, e1, 1, rfl, ?_⟩
    show subW (.ref ia) (.int (-1)) _ σ
    unfold subW
    dsimp only
    rw [e2]
    refine ⟨by simp; omega, .ref nx, .inr ⟨by decide, by simp; omega, ?_⟩, rfl, rfl⟩
    have : ((-1 : Int) + ((l' ++ [AV.ref nx]).length : Int)).toNat = l'.length := by simp; omega
    rw [this]; simp
  refine wpAny_bind ?_
  show wpAny _ _ (eval (.Subscript (.Name its p2) (.UnaryOp .USub (.Constant (.int 1) k p3) p4) p5) env >>= fun f => callWith p6 f [] [] []) _ _ _
  refine wpAny_bind (thenV (snd_sub B rfl (snd_name B hi) (snd_neg snd_int) _ _ _ _ _ _ _ O OA FA R hsub) fun v s₁ av σ₁ v1 R1 i1 w1 => ?_)
  obtain ⟨rfl, rfl⟩ := w1
  obtain rfl := v1.ref_inv
  obtain ⟨on, n1, n2⟩ := R1.trk _ _ e4
  cases n2
  obtain ⟨oi, o1, o2⟩ := R1.trk _ _ e5
  cases o2
  obtain ⟨us, u1, u2⟩ := R1.isList e6
  refine callWith_next n1 (call_next n1 ?_)
  rcases hw with ⟨v, hv, hw⟩ | ⟨hv, da, es, ep, sa, st', kk, g1, g2, g3, g4, g5, g6, g7, g8, g9, g10, hw⟩
  · obtain ⟨u, c1, c2⟩ := u2.get hv
    refine next_item o1 rfl u1 (by simpa using c1) fun h' o' d1 d2 d3 d4 d5 d6 => ⟨u, rfl, ?_⟩
    have ho' : o' = { cls := .type "list_iterator", data := .fields #[.ref la, .int ((i + 1 : Nat) : Int) 0] } := by
      cases o'; simp only at d2 d3 d4 d5; simp only [d2, d3, d4, d5]
    have R2 := R1.put (t := s₁.toks) (o := .iter la (i + 1)) d6.extBut d1 ho' (.inl ⟨_, e5, by nofun⟩)
    have i2 := R1.put_imm d6.extBut (.inl ⟨_, e5, by nofun⟩)
    refine wpAny_bind (wpAny_pure ?_)
    show wpAny _ _ (do assign (.Name (Str.ofString x') p1) env u; pure Flow.next) _ _ _
    refine wpAny_bind (wpAny_assign_Name (wpAny_mono (R2.storeN O hin (c2.mono i2) (P := Q .brk) hw) (fun _ s₃ ⟨σ₃, R3, i3, q3⟩ => wpAny_pure ?_) fun _ _ e => e))
    exact wpAny_execs_cons (wpAny_Break ⟨.brk, σ₃, .brk, R3, i1.trans (i2.trans i3), q3⟩)
  · subst hEE
    have hn : us.toArray[i]? = none := by
      have h1 := List.getElem?_eq_none_iff.mp hv
      have h2 := u2.length
      simp; omega
    refine next_end OA.handled o1 rfl u1 hn fun h' o' e oe vs a0 d1 d2 d3 d4 d5 d6 d7 d8 d9 => ?_
    have R2 := R1.put (t := s₁.toks) (o := .dead) d3 d1 d2 (.inl ⟨_, e5, by nofun⟩)
    have i2 := R1.put_imm d3 (.inl ⟨_, e5, by nofun⟩)
    have nr1 := R1.nrel d4
    have hne : e ≠ it := by rintro rfl; rw [o1] at d4; cases d4
    have nr2 : ¬ Rel C sc Pr env (σ₁.ins it .dead) e := by
      rintro (h | h | h | h)
      · exact nr1 (.inl h)
      · exact nr1 (.inr (.inl h))
      · simp only [AS.ins, Hp.ins, if_neg hne] at h; exact nr1 (.inr (.inr (.inl h)))
      · exact nr1 (.inr (.inr (.inr h)))
    refine note_raw R2 HA FA d5 d6 (by refine ⟨?_, ?_, ?_⟩ <;> simp) d7 d8 d9 nr2 fun s₃ R3 i3 X3 => ?_
    refine flight_set (fr := none) R3 X3 fun s₄ R4 i4 X4 => ?_
    generalize hst : Stmt.Expr (.Call (.Attribute (.Name its p14) (Str.ofString "pop") a2) [] [] q2) p15 = st2
    refine wpAny_handleBy_builtin stop_exc stop_nt stop_self (wpAny_Name (X.stop _ _ _ _ _ _ O.kind O.glob O.blt (O.gl _ hg) R4.keep ⟨rfl, ?_, ?_⟩) (by decide))
    · obtain ⟨⟨ob, vs, a0, tb, ot, tvs, y1, y2, _⟩, _, _⟩ := X4
      exact ⟨ob, y1, y2⟩
    · rw [if_pos rfl]
      refine flight_set (fr := none) R4 X4 fun s₅ R5 i5 X5 => ?_
      have nsa : sa ≠ it := by rintro rfl; rw [g4] at e5; cases e5
      have nda : da ≠ it := by rintro rfl; rw [g2] at e5; cases e5
      have nia : ia ≠ it := by rintro rfl; rw [e2] at e5; cases e5
      have h4 : (σ₁.ins it .dead).heap sa = some (.list (st' ++ [.int kk])) := by simp only [AS.ins, Hp.ins, if_neg nsa]; exact g4
      refine wpAny_execs_cons (wpAny_Delete (wpAny_deleteEach_cons (wpAny_delete_Subscript (var_sound B O R5 hd g1 fun u hu => ?_))))
      obtain rfl := hu.ref_inv
      refine thenV (pop_sound (Q := fun v τ => v = .int kk ∧ τ = (σ₁.ins it .dead).ins sa (.list st')) B O R5 hs h1 g3 h4 g5 ⟨rfl, rfl⟩) fun w s₆ aw σ₆ v6 R6 i6 w6 => ?_
      obtain ⟨rfl, rfl⟩ := w6
      cases v6
      have h5 : ((σ₁.ins it .dead).ins sa (.list st')).heap da = some (.dict es ep) := by simp only [AS.ins, Hp.ins, if_neg g8, if_neg nda]; exact g2
      refine wpAny_mono (delDict_sound B.ck R6 (P := fun τ => ∃ ep', τ = ((σ₁.ins it .dead).ins sa (.list st')).ins da (.dict (es.filter fun p => p.1 != kk) ep')) h5 g6 g7 fun ep' => ⟨ep', rfl⟩) (fun _ s₇ ⟨σ₇, R7, i7, ep', q7⟩ => wpAny_deleteEach_nil ?_) fun _ _ e => e
      subst q7
      subst hst
      have h6 : (((σ₁.ins it .dead).ins sa (.list st')).ins da (.dict (es.filter fun p => p.1 != kk) ep')).heap ia = some (.list (l' ++ [.ref nx])) := by simp only [AS.ins, Hp.ins, if_neg (Ne.symm g10), if_neg (Ne.symm g9), if_neg nia]; exact e2
      refine wpAny_execs_cons (wpAny_Expr_any (thenV (pop_sound (Q := fun v τ => τ = (((σ₁.ins it .dead).ins sa (.list st')).ins da (.dict (es.filter fun p => p.1 != kk) ep')).ins ia (.list l')) B O R7 hi h2 e1 h6 e3 rfl) fun w s₈ aw σ₈ v8 R8 i8 w8 => ?_) (by unfold interactive; rw [O.kind]; rfl))
      subst w8
      exact wpAny_execs_nil ⟨.next, _, .next, R8, i1.trans (i2.trans (i3.trans (i4.trans (i5.trans (i6.trans (i7.trans i8)))))), hw ep'⟩
end
end Mine

end

section
open PySem PySem.W PyProof.Rows PySem.Calls
set_option Elab.async false
set_option backward.match.sparseCases false
set_option maxRecDepth 100000
set_option maxHeartbeats 4000000
namespace Mine
section
variable {C : Cx} {cyc : Addr} {K : Frag} {T : Tb} {Γ : GT} {d : Nat} {ct : CT} {cycS : String}

theorem snd_opt {α : Type} {o : Option α} {f : α → MS} {sc : Sc} {st : Stmt} (h : ∀ a, o = some a → SndS C cyc T d ct sc st (f a)) : SndS C cyc T d ct sc st (optS o f) := by
  cases o with
  | none => exact snd_never
  | some a => exact h a rfl
theorem snd_ifB {b : Bool} {m : MS} {sc : Sc} {st : Stmt} (h : b = true → SndS C cyc T d ct sc st m) : SndS C cyc T d ct sc st (ifS' b m) := by
  cases b with
  | false => exact snd_never
  | true => exact h rfl

theorem snd_cAsg (B : Base C cyc K T Γ d ct) {n : Nat} {sc : Sc} {ts : List Expr} {v : Expr} {p : Pos} : SndS C cyc T d ct sc (.Assign ts v p) (cAsg Γ n sc ts v) := by
  unfold cAsg
  cases h1 : one ts with
  | some t =>
    rw [one_eq h1]
    exact snd_ifB fun hs => snd_opt fun t' ht => snd_opt fun v' hv => snd_assign B hs ht hv
  | none =>
    refine snd_opt fun t h2 => ?_
    rw [two_eq h2]
    exact snd_ifB fun hs => snd_opt fun a ha => snd_opt fun b hb => snd_opt fun v' hv => snd_assign2 B (Bool.and_eq_true_iff.1 hs).1 (Bool.and_eq_true_iff.1 hs).2 ha hb hv
theorem snd_cAug (B : Base C cyc K T Γ d ct) {n : Nat} {sc : Sc} {t v : Expr} {op : Operator} {p : Pos} : SndS C cyc T d ct sc (.AugAssign t op v p) (cAug Γ n sc t op v) := by
  unfold cAug
  cases h1 : subOf t with
  | some x =>
    rw [subOf_eq h1]
    exact snd_ifB fun hs => snd_opt fun o ho => snd_opt fun i hi => snd_opt fun v' hv => snd_augSub B (Bool.and_eq_true_iff.1 hs).1 (Bool.and_eq_true_iff.1 hs).2 ho hi hv
  | none =>
    refine snd_opt fun x h2 => ?_
    rw [attrOf_eq h2]
    exact snd_ifB fun hs => snd_opt fun o ho => snd_opt fun m hm => snd_opt fun v' hv => snd_augAttr B hs ho hm hv
theorem snd_cNext (B : Base C cyc K T Γ d ct) (X : ExcOk C cyc cycS) {sc : Sc} {body : List Stmt} {h : Str × Pos × List Stmt × Pos} {p : Pos} :
    SndS C cyc T d ct sc (.Try body [.ExceptHandler (some (.Name h.1 h.2.1)) none h.2.2.1 h.2.2.2] [] [] p) (cNext Γ sc body h) := by
  unfold cNext
  refine snd_opt fun b e₁ => snd_opt fun a e₂ => snd_opt fun x e₃ => snd_opt fun c e₄ => snd_opt fun u e₅ => snd_opt fun its e₆ => snd_opt fun z e₇ => snd_opt fun _ e₈ => snd_opt fun k f₁ => snd_opt fun dl f₂ => snd_opt fun w f₃ => snd_opt fun dn f₄ => snd_opt fun c1 f₅ => snd_opt fun a1 f₆ => snd_opt fun st f₇ => snd_opt fun ex f₈ => snd_opt fun c2 f₉ => snd_opt fun a2 g₁ => snd_opt fun its2 g₂ =>
    snd_opt fun x' k₁ => snd_opt fun i' k₂ => snd_opt fun d' k₃ => snd_opt fun st' k₄ => snd_ifB fun hc => ?_
  obtain ⟨q₁, q₂, q₃⟩ := bindS e₃
  obtain ⟨y, y₁, y₂⟩ := bindS e₇
  obtain ⟨i, i₁, i₂⟩ := bindS y₂
  obtain ⟨i₃, i₄⟩ := orNone_eq i₂
  obtain ⟨w₁, w₂, w₃⟩ := bindS f₃
  simp only [Bool.and_eq_true, beq_iff_eq, List.contains_iff_mem] at hc i₃
  obtain ⟨⟨⟨⟨⟨⟨c₁, c₂⟩, c₃⟩, c₄⟩, c₅⟩, c₆⟩, c₇⟩ := hc
  have c₆' : (a1.2.2.endLine == c1.2.line) = true := beq_iff_eq.2 c₆
  have c₇' : (a2.2.2.endLine == c2.2.line) = true := beq_iff_eq.2 c₇
  rw [two_eq e₁, asgOf_eq e₂, one_eq q₂, nameOf_eq q₃, call0_eq e₄, subOf_eq e₅, nameOf_eq e₆, negOf_eq y₁, intOf_eq i₁, i₃, brkOf_eq e₈, two_eq f₁, delOf_eq f₂, one_eq w₂, subOf_eq w₃, nameOf_eq f₄, call0_eq f₅, attrOf_eq f₆, nameOf_eq f₇, exprOf_eq f₈, call0_eq f₉, attrOf_eq g₁, nameOf_eq g₂, c₁, c₂, c₃, c₄]
  exact snd_tryNext B X k₁ k₂ k₃ k₄ c₅ c₆' c₇'
theorem snd_cTry (B : Base C cyc K T Γ d ct) (X : ExcOk C cyc cycS) {n : Nat} {sc : Sc} {body : List Stmt} {hs : List ExceptHandler} {a b : List Stmt} {p : Pos} : SndS C cyc T d ct sc (.Try body hs a b p) (cTry Γ cycS n sc body hs a b) := by
  refine snd_ifB fun hc => snd_opt fun h e => ?_
  obtain ⟨h1, h2⟩ := Bool.and_eq_true_iff.1 hc
  obtain ⟨q, q₁, q₂⟩ := bindS e
  rw [List.isEmpty_iff.1 h1, List.isEmpty_iff.1 h2, one_eq q₁, handOf_eq q₂]
  by_cases z : (h.1 == Str.ofString "StopIteration") = true
  · rw [if_pos z]; exact snd_cNext B X
  · rw [if_neg z]; exact snd_never

theorem sound_stmt (B : Base C cyc K T Γ d ct) (X : ExcOk C cyc cycS) {n : Nat} (hss : ∀ sc sts, SndSs C cyc T d ct sc sts (cSs Γ cycS n sc sts)) : ∀ sc st, SndS C cyc T d ct sc st (cS Γ cycS (n + 1) sc st) := by
  intro sc st
  have I := sound_all B n
  cases st with
  | Assign ts v p => exact snd_cAsg B
  | AugAssign t op v p => exact snd_cAug B
  | Expr v p => exact snd_ifB fun hc => snd_opt fun m hm => snd_expr hc (I.e _ _ _ hm)
  | Return e p =>
    cases e with
    | none => exact snd_never
    | some e => exact snd_opt fun m hm => snd_return (I.e _ _ _ hm)
  | If c a b p => exact snd_opt fun m hm => snd_if (I.c _ _ _ hm) (hss _ _) (hss _ _)
  | While c a b p => exact snd_opt fun m hm => snd_while (I.c _ _ _ hm) (hss _ _) (hss _ _)
  | For t it body els p =>
    refine snd_ifB fun hc => snd_opt fun t' ht => snd_opt fun it' hi => ?_
    obtain ⟨h1, h2⟩ := Bool.and_eq_true_iff.1 hc
    rw [List.isEmpty_iff.1 h1]
    exact snd_for B ht (I.e _ _ _ hi) h2 (hss _ _)
  | Break => exact snd_break
  | Continue => exact snd_continue
  | Pass => exact snd_pass
  | Try body hs a b p => exact snd_cTry (n := n) B X
  | Raise e c p => exact snd_never
  | _ => exact snd_never

theorem sound_stmts (B : Base C cyc K T Γ d ct) (X : ExcOk C cyc cycS) : ∀ n sc sts, SndSs C cyc T d ct sc sts (cSs Γ cycS n sc sts)
  | 0, sc, sts => fun _ _ _ _ _ _ _ _ _ _ _ _ hw _ => (show False from hw).elim
  | 1, sc, [] => snd_nil
  | 1, sc, s :: r => snd_cons snd_never (sound_stmts B X 0 sc r)
  | n + 2, sc, [] => snd_nil
  | n + 2, sc, s :: r => snd_cons (sound_stmt B X (sound_stmts B X n) sc s) (sound_stmts B X (n + 1) sc r)

theorem call_sound (ck : CxOk C) (kin : K.In C.s₁.heap) (tb : TbOk K T) (gl : GlobOk C Γ) (nm : ∀ x y, Γ.nm x = some y → Str.ofString y = x ∧ (x == ("__classdict__" : Str)) = false) (X : ExcOk C cyc cycS)
    (fn_ok : ∀ f fn, T.fn f = some fn → FnOk C Γ cycS f fn) : ∀ d, CallSnd C cyc d (callW T d)
  | 0 => fun f args vals Q X sc Pr env σ s A O OC FA R hv hw => hw.elim
  | d + 1 => call_step ck nm fn_ok (sound_stmts ⟨ck, kin, tb, gl, nm, call_sound ck kin tb gl nm X fn_ok d⟩ X)
end
end Mine

end

section
open PySem PySem.W PyProof.Rows PySem.Calls
set_option Elab.async false
set_option backward.match.sparseCases false
set_option maxRecDepth 100000
set_option maxHeartbeats 2000000
namespace Mine
theorem zip_lookup : ∀ {ns : List Str} {vs : List Value}, ns.Nodup → ns.length ≤ vs.length → ns.filterMap (fun n => ((ns.zip vs).lookup n).map fun x => (n, x)) = ns.zip vs
  | [], _, _, _ => by simp
  | n :: ns, [], _, h => by simp at h
  | n :: ns, v :: vs, hn, h => by
    rw [List.nodup_cons] at hn
    rw [List.zip_cons_cons, List.filterMap_cons, List.lookup_cons, beq_self_eq_true]
    simp only [Option.map_some]
    congr 1
    have e : ∀ (l : List Str), (∀ m ∈ l, m ≠ n) → l.filterMap (fun m => (((n, v) :: ns.zip vs).lookup m).map fun x => (m, x)) = l.filterMap (fun m => ((ns.zip vs).lookup m).map fun x => (m, x)) := by
      intro l hl
      induction l with
      | nil => rfl
      | cons m l ih =>
        have : (m == n) = false := by simpa using hl m (by simp)
        rw [List.filterMap_cons, List.filterMap_cons, ih (fun x hx => hl x (by simp [hx])), List.lookup_cons, this]
    rw [e ns (fun m hm q => hn.1 (q ▸ hm))]
    exact zip_lookup hn.2 (by simpa using h)
theorem zip_some : ∀ {ns : List Str} {vs : List Value}, ns.length ≤ vs.length → ∀ n ∈ ns, ((ns.zip vs).lookup n).isNone = false
  | [], _, _, _, hm => by cases hm
  | n :: ns, [], h, _, _ => by simp at h
  | n :: ns, v :: vs, h, m, hm => by
    rw [List.zip_cons_cons, List.lookup_cons]
    by_cases q : m = n
    · subst q; simp
    · have : (m == n) = false := by simpa using q
      rw [this]
      exact zip_some (by simpa using h) m (by simpa [q] using hm)
theorem wp_else {α : Type} {M : Model} {A : Around} {E : Value → Shared → Prop} {Q : α → Shared → Prop} {s : Shared} {c : Prop} [Decidable c] {x y : Sem α} (h : ¬ c) (k : wpAny M A y Q E s) : wpAny M A (if c then x else y) Q E s := by rw [if_neg h]; exact k
theorem wp_eq {α : Type} {M : Model} {A : Around} {E : Value → Shared → Prop} {Q : α → Shared → Prop} {s : Shared} {x y : Sem α} (h : x = y) (k : wpAny M A y Q E s) : wpAny M A x Q E s := h ▸ k
theorem bind_fullW {fd : FuncData} {as : List Arg} {va : Option Arg} {kd : List (Option Expr)} {df : List Expr} (hp : fd.params = ⟨[], as, va, [], kd, none, df⟩) (hd : fd.defaults = .none) {ns : List Str} (hN : as.map (·.arg) = ns) (hn : ns.Nodup) {vals : List Value}
    (hl : ns.length ≤ vals.length) (hv : va.isNone = true → vals.length = ns.length) {M : Model} {A : Around} {E : Value → Shared → Prop} {Q : List (Str × Value) → Shared → Prop} {s : Shared}
    (h₀ : va = none → Q (ns.zip vals) s) (h₁ : ∀ a, va = some a → wpAny M A (newTuple (vals.drop ns.length)) (fun t s' => Q (ns.zip vals ++ [(a.arg, t)]) s') E s) : wpAny M A (bindArgs fd ⟨vals, []⟩) Q E s := by
  have h2 : ns.filter (fun n => ((ns.zip vals).lookup n).isNone) = [] := by
    rw [List.filter_eq_nil_iff]; intro n h; rw [zip_some hl n h]; exact Bool.false_ne_true
  have h3 := zip_lookup hn hl
  cases fd with
  | mk name qualname params body scope globals closure defaults =>
  cases hp; cases hd
  delta bindArgs
  dsimp only
  rw [hN]
  refine wpAny_bind (wpAny_pure ?_)
  refine wpAny_bind (wpAny_pure ?_)
  refine wp_else ?_ ?_
  · rw [List.map_nil, List.nil_append, Bool.and_eq_true, decide_eq_true_eq]
    rintro ⟨a, b⟩
    have := hv b; omega
  refine wp_else ?_ ?_
  · show ¬ (!(List.filter (fun n => (List.lookup n (ns.zip vals)).isNone) (List.take (ns.length - (List.drop (0 - ns.length) ([] : List Value)).length) ns)).isEmpty) = true
    rw [List.drop_nil, List.length_nil, Nat.sub_zero, List.take_length, h2]; nofun
  refine wpAny_bind (wp_eq (y := pure (ns.zip vals)) ?_ (wpAny_pure ?_))
  · rw [show List.drop (((none : Option (Array Value)).getD #[]).toList.length - (List.map (fun x : Arg => x.arg) [] ++ ns).length) ((none : Option (Array Value)).getD #[]).toList = [] from List.drop_nil, List.zip_nil_right]; rfl
  refine wpAny_bind (wpAny_pure ?_)
  refine wp_else nofun ?_
  cases va with
  | none =>
    show wpAny M A (pure (List.filterMap (fun n => Option.map (fun x => (n, x)) (List.lookup n (ns.zip vals))) (ns ++ []))) Q E s
    rw [List.append_nil, h3]
    exact wpAny_pure (h₀ rfl)
  | some a =>
    refine wpAny_bind (wpAny_mono (h₁ a rfl) (fun t s' h => ?_) fun _ _ h => h)
    show wpAny M A (pure (List.filterMap (fun n => Option.map (fun x => (n, x)) (List.lookup n (ns.zip vals))) (ns ++ []) ++ [(a.arg, t)])) Q E s'
    rw [List.append_nil, h3]
    exact wpAny_pure h

theorem bind_dflt {fd : FuncData} {a b : Arg} {kd : List (Option Expr)} {df : List Expr} {T : Addr} {o : Obj} {v d : Value} {n : Nat} {s : Shared} (hp : fd.params = ⟨[], [a, b], none, [], kd, none, df⟩) (hd : fd.defaults = .ref T) (ho : s.heap.get? T = some o) (hs : o.data = .seq #[d] n)
    (hn : a.arg ≠ b.arg) : BindsTo s fd ⟨[v], []⟩ [(a.arg, v), (b.arg, d)] := by
  have e : (b.arg == a.arg) = false := beq_eq_false_iff_ne.2 fun h => hn h.symm
  have e₁ : ([(a.arg, v)] : List (Str × Value)).lookup a.arg = some v := by rw [List.lookup_cons, beq_self_eq_true]
  have e₂ : ([(a.arg, v)] : List (Str × Value)).lookup b.arg = none := by rw [List.lookup_cons, e]; rfl
  have e₃ : ([(a.arg, v), (b.arg, d)] : List (Str × Value)).lookup a.arg = some v := by rw [List.lookup_cons, beq_self_eq_true]
  have e₄ : ([(a.arg, v), (b.arg, d)] : List (Str × Value)).lookup b.arg = some d := by rw [List.lookup_cons, e, List.lookup_cons, beq_self_eq_true]
  intro M A E Q hq
  cases fd with
  | mk name qualname params body scope globals closure defaults =>
  cases hp; cases hd
  delta bindArgs
  dsimp only
  refine wpAny_bind (wpAny_pure ?_)
  refine wpAny_bind (wpAny_bind (wpAny_load ho ?_))
  rw [hs]
  refine wpAny_pure ?_
  refine wp_else nofun ?_
  refine wp_else ?_ ?_
  · show ¬ (!(List.filter (fun n => (List.lookup n [(a.arg, v)]).isNone) [a.arg]).isEmpty) = true
    rw [List.filter_cons, e₁]; nofun
  refine wpAny_bind (wp_eq (y := pure [(a.arg, v), (b.arg, d)]) ?_ (wpAny_pure ?_))
  · show (forIn [(b.arg, d)] [(a.arg, v)] fun (x : Str × Value) (r : List (Str × Value)) => if (List.lookup x.1 r).isNone = true then (pure (ForInStep.yield (r ++ [(x.1, x.2)])) : Sem _) else pure (ForInStep.yield r)) = _
    rw [List.forIn_cons, e₂]; rfl
  refine wpAny_bind (wpAny_pure ?_)
  refine wp_else nofun ?_
  show wpAny M A (pure (List.filterMap (fun n => Option.map (fun x => (n, x)) (List.lookup n [(a.arg, v), (b.arg, d)])) [a.arg, b.arg])) Q E s
  rw [List.filterMap_cons, e₃, List.filterMap_cons, e₄]
  exact wpAny_pure hq
end Mine

end

section
open PySem PySem.W PyProof.Rows PySem.Calls
set_option Elab.async false
set_option backward.match.sparseCases false
set_option maxRecDepth 100000
set_option maxHeartbeats 2000000
namespace Mine

noncomputable def noneV : Value → Bool
  | .none => true
  | _ => false
theorem noneV_eq {v : Value} (h : noneV v = true) : v = .none := by cases v <;> first | rfl | cases h

noncomputable def vaName (Γ : GT) : Option Arg → Option (Option String)
  | none => some none
  | some a => (Γ.nm a.arg).map some

theorem mapM_names {Γ : GT} (nm : ∀ x y, Γ.nm x = some y → Str.ofString y = x ∧ (x == ("__classdict__" : Str)) = false) : ∀ {as : List Arg} {ps : List String}, as.mapM (fun a => Γ.nm a.arg) = some ps → as.map (·.arg) = ps.map Str.ofString
  | [], ps, h => by simp at h; subst h; rfl
  | a :: as, ps, h => by
    rw [List.mapM_cons] at h
    simp only [Option.bind_eq_bind, Option.bind_eq_some_iff, Option.pure_def, Option.some.injEq] at h
    obtain ⟨x, hx, xs, hxs, rfl⟩ := h
    rw [List.map_cons, List.map_cons, mapM_names nm hxs, (nm _ _ hx).1]

theorem BR.zip {h : Heap} {args : List AV} {vals : List Value} (x : VRs h args vals) : ∀ {ps : List String}, BR h ((ps.map Str.ofString).zip vals) (ps.zip args) := by
  induction args generalizing vals with
  | nil => rw [x.nil_inv]; intro ps; cases ps <;> exact trivial
  | cons a args ih =>
    obtain ⟨v, ws, rfl, b, y⟩ := x.cons_inv
    intro ps
    cases ps with
    | nil => exact trivial
    | cons p ps => exact ⟨⟨rfl, b⟩, ih y⟩
theorem BR.append {h : Heap} : ∀ {bs : List (Str × Value)} {as : List (String × AV)} {bs' : List (Str × Value)} {as' : List (String × AV)}, BR h bs as → BR h bs' as' → BR h (bs ++ bs') (as ++ as')
  | [], [], _, _, _, y => y
  | _ :: _, _ :: _, _, _, ⟨a, b⟩, y => ⟨a, BR.append b y⟩

theorem mapM_nil_dflt {l : List String} {ds : List (String × AV)} (h : l.mapM (fun p => (([] : List (String × AV)).lookup p).map fun v => (p, v)) = some ds) : l = [] ∧ ds = [] := by
  cases l with
  | nil => simp at h; exact ⟨rfl, h⟩
  | cons a l => simp [List.mapM_cons] at h

theorem nodup_map_ofString {l : List String} (h : l.Nodup) : (l.map Str.ofString).Nodup := h.map _ fun _ _ a b => a (ofString_inj b)

/-- readers of the written heap -/
noncomputable def funcOf' : (d : Data) → Option {x : FuncData // d = .func x}
  | .func fd => some ⟨fd, rfl⟩
  | _ => none
noncomputable def funcOf (d : Data) : Option FuncData := (funcOf' d).map Subtype.val
theorem funcOf_eq {d : Data} {x : FuncData} (h : funcOf d = some x) : d = .func x := sub_eq (o := funcOf' d) h
noncomputable def stmtsOf' : (b : FuncBody) → Option {x : List Stmt // b = .stmts x}
  | .stmts b => some ⟨b, rfl⟩
  | _ => none
noncomputable def stmtsOf (b : FuncBody) : Option (List Stmt) := (stmtsOf' b).map Subtype.val
theorem stmtsOf_eq {b : FuncBody} {x : List Stmt} (h : stmtsOf b = some x) : b = .stmts x := sub_eq (o := stmtsOf' b) h
noncomputable def parOf' : (p : Arguments) → Option {x : List Arg × Option Arg × List (Option Expr) × List Expr // p = ⟨[], x.1, x.2.1, [], x.2.2.1, none, x.2.2.2⟩}
  | ⟨[], as, va, [], kd, none, df⟩ => some ⟨(as, va, kd, df), rfl⟩
  | _ => none
noncomputable def parOf (p : Arguments) : Option (List Arg × Option Arg × List (Option Expr) × List Expr) := (parOf' p).map Subtype.val
theorem parOf_eq {p : Arguments} {x : List Arg × Option Arg × List (Option Expr) × List Expr} (h : parOf p = some x) : p = ⟨[], x.1, x.2.1, [], x.2.2.1, none, x.2.2.2⟩ := sub_eq (o := parOf' p) h
noncomputable def seqOf' : (d : Data) → Option {x : Array Value × Nat // d = .seq x.1 x.2}
  | .seq a n => some ⟨(a, n), rfl⟩
  | _ => none
noncomputable def seqOf (d : Data) : Option (Array Value × Nat) := (seqOf' d).map Subtype.val
theorem seqOf_eq {d : Data} {x : Array Value × Nat} (h : seqOf d = some x) : d = .seq x.1 x.2 := sub_eq (o := seqOf' d) h
noncomputable def refOf' : (v : Value) → Option {x : Addr // v = .ref x}
  | .ref a => some ⟨a, rfl⟩
  | _ => none
noncomputable def refOf (v : Value) : Option Addr := (refOf' v).map Subtype.val
theorem refOf_eq {v : Value} {x : Addr} (h : refOf v = some x) : v = .ref x := sub_eq (o := refOf' v) h
noncomputable def fdOk (K : Frag) (fd : FuncData) : Bool := !fd.scope.isCoroutine && !fd.scope.isGenerator && codeIn K fd.code fd.qualname && fd.globals == mainGlobals && fd.builtins == builtinsNs && fd.closure.isEmpty && fd.scope.kind == .function
noncomputable def fnHd (K : Frag) (Γ : GT) (f : Addr) : Option (FuncData × List Stmt × Sc) :=
  (K.lookup f).bind fun o => (funcOf o.data).bind fun fd => (stmtsOf fd.body).bind fun b => (compSc Γ fd.scope.names).bind fun sc => orNone (fdOk K fd && sc.ro.isEmpty) (some (fd, b, sc))
noncomputable def Sc.mine (sc : Sc) (p : String) : Bool := sc.loc.contains p || sc.own.contains p
/-- a def of the text, read off the written part of the heap -/
noncomputable def fnOf (K : Frag) (Γ : GT) (cyc : String) (f : Addr) : Option Fn :=
  (fnHd K Γ f).bind fun x => (parOf x.1.params).bind fun p => (p.1.mapM fun a => Γ.nm a.arg).bind fun ps => (vaName Γ p.2.1).bind fun vn =>
    orNone (noneV x.1.defaults && (decide (ps ++ vn.toList).Nodup && (ps ++ vn.toList).all x.2.2.mine)) (some ⟨ps, vn, [], cSs Γ cyc 60 x.2.2 x.2.1⟩)

/-- what a def's arguments become -/
def ArgsOk (sc : Sc) (fd : FuncData) (fn : Fn) (C : Cx) : Prop :=
  ∀ (args : List AV) (bs : List (String × AV)) (vals : List Value) (s : Shared), (∀ a o, C.s₁.heap.get? a = some o → s.heap.get? a = some o) → VRs s.heap args vals → bindArgsA fn args = some bs →
      (bs.map (·.1)).Nodup ∧ (∀ p ∈ bs, p.1 ∈ sc.loc ∨ p.1 ∈ sc.own) ∧
      ∀ (M : Model) (A : Around) (E : Value → Shared → Prop) (Q : List (Str × Value) → Shared → Prop), (∀ binds h', (∀ b o, s.heap.get? b = some o → h'.get? b = some o) → BR h' binds bs → Q binds { s with heap := h' }) →
        wpAny M A (bindArgs fd ⟨vals, []⟩) Q E s
theorem Sc.mine_eq {sc : Sc} {p : String} (h : sc.mine p = true) : p ∈ sc.loc ∨ p ∈ sc.own := by
  rcases Bool.or_eq_true_iff.1 h with h | h
  · exact .inl (List.contains_iff_mem.1 h)
  · exact .inr (List.contains_iff_mem.1 h)
theorem notT {b : Bool} (h : (!b) = true) : b = false := by cases b <;> first | rfl | cases h
theorem fnHd_ok {C : Cx} {K : Frag} {Γ : GT} {cyc : String} {f : Addr} {fn : Fn} (X : K.In C.s₁.heap) {x : FuncData × List Stmt × Sc} (h : fnHd K Γ f = some x) (hb : fn.body = cSs Γ cyc 60 x.2.2 x.2.1) (ha : ArgsOk x.2.2 x.1 fn C) : FnOk C Γ cyc f fn := by
  obtain ⟨o, hK, h⟩ := bindS h
  obtain ⟨fd, h₁, h⟩ := bindS h
  obtain ⟨b, h₂, h⟩ := bindS h
  obtain ⟨sc, h₃, h⟩ := bindS h
  obtain ⟨h₄, h⟩ := orNone_eq h
  cases h
  obtain ⟨h₄, h₅⟩ := Bool.and_eq_true_iff.1 h₄
  obtain ⟨c, c₇⟩ := Bool.and_eq_true_iff.1 h₄
  obtain ⟨c, c₆⟩ := Bool.and_eq_true_iff.1 c
  obtain ⟨c, c₅⟩ := Bool.and_eq_true_iff.1 c
  obtain ⟨c, c₄⟩ := Bool.and_eq_true_iff.1 c
  obtain ⟨c, c₃⟩ := Bool.and_eq_true_iff.1 c
  obtain ⟨c₁, c₂⟩ := Bool.and_eq_true_iff.1 c
  exact ⟨o, fd, b, sc, 60, X _ _ hK, funcOf_eq h₁, notT c₁, notT c₂, stmtsOf_eq h₂, codeRec_of X c₃, eq_of_beq c₄, eq_of_beq c₅, List.isEmpty_iff.1 c₆, eq_of_beq c₇, h₃, List.isEmpty_iff.1 h₅, hb, ha⟩

/-- a star parameter's part -/
def vaPart (vn : Option String) (l : List AV) : List (String × AV) := match vn with | some x => [(x, .tup l)] | none => []
theorem bindA_plain {ps : List String} {vn : Option String} {body : List MS} {args : List AV} {bs : List (String × AV)} (h : bindArgsA ⟨ps, vn, [], body⟩ args = some bs) :
    args.length < 1000000 ∧ ps.length ≤ args.length ∧ (vn = none → args.length ≤ ps.length) ∧ bs = ps.zip args ++ vaPart vn (args.drop ps.length) := by
  unfold bindArgsA at h
  by_cases c : (decide (1000000 ≤ args.length) || (vn.isNone && decide (ps.length < args.length)) || (!([] : List (String × AV)).isEmpty && args.length != 1)) = true
  · rw [if_pos c] at h; cases h
  · rw [if_neg c] at h
    rw [Bool.or_eq_true, Bool.or_eq_true, not_or, not_or, decide_eq_true_eq, Bool.and_eq_true, decide_eq_true_eq] at c
    cases hds : (ps.drop args.length).mapM (fun p => (([] : List (String × AV)).lookup p).map fun v => (p, v)) with
    | none => simp only [hds] at h; cases h
    | some ds =>
      simp only [hds] at h
      obtain ⟨e₁, e₂⟩ := mapM_nil_dflt hds
      subst e₂
      refine ⟨Nat.not_le.1 c.1.1, List.drop_eq_nil_iff.1 e₁, fun e => ?_, ?_⟩
      · subst e; exact Nat.not_lt.1 fun q => c.1.2 ⟨rfl, q⟩
      · cases h; rw [List.append_nil]; rfl
theorem args_ok {C : Cx} {Γ : GT} (nm : ∀ x y, Γ.nm x = some y → Str.ofString y = x ∧ (x == ("__classdict__" : Str)) = false) {sc : Sc} {fd : FuncData} {as : List Arg} {va : Option Arg} {kd : List (Option Expr)} {df : List Expr} {ps : List String} {vn : Option String} {body : List MS}
    (hp : fd.params = ⟨[], as, va, [], kd, none, df⟩) (hd : fd.defaults = .none) (hps : as.mapM (fun a => Γ.nm a.arg) = some ps) (hvn : vaName Γ va = some vn) (c₁ : (ps ++ vn.toList).Nodup) (c₂ : ∀ p ∈ ps ++ vn.toList, sc.mine p = true) : ArgsOk sc fd ⟨ps, vn, [], body⟩ C := by
  intro args bs vals s hk hv hbs
  obtain ⟨b₁, b₂, b₃, rfl⟩ := bindA_plain hbs
  have hlen : ps.length = (ps.map Str.ofString).length := (List.length_map ..).symm
  have hvl := hv.length
  have hn1 : (ps.zip args ++ vaPart vn (args.drop ps.length)).map (·.1) = ps ++ vn.toList := by
    rw [List.map_append, List.map_fst_zip b₂]; cases vn <;> rfl
  refine ⟨hn1 ▸ c₁, fun p m => Sc.mine_eq (c₂ _ (hn1 ▸ List.mem_map_of_mem m)), fun M A E Q hQ => ?_⟩
  refine bind_fullW hp hd (mapM_names nm hps) (nodup_map_ofString (List.nodup_append.mp c₁).1) (by rw [← hlen, hvl]; exact b₂) (fun e => ?_) (fun e => ?_) fun a e => ?_
  · have : vn = none := by
      cases va with
      | none => cases hvn; rfl
      | some a => cases e
    rw [← hlen, hvl]; exact Nat.le_antisymm (b₃ this) b₂
  · subst e; cases hvn
    exact hQ ((ps.map Str.ofString).zip vals) s.heap (fun _ _ e => e) (by
      show BR _ _ (_ ++ [])
      rw [List.append_nil]; exact BR.zip hv)
  · subst e
    obtain ⟨x, hx, rfl⟩ := Option.map_eq_some_iff.1 hvn
    refine wpAny_newTuple (hQ _ _ (fun b o e => Heap.get?_push_of_some _ e) ?_) ?_
    · exact BR.append (BR.zip (hv.mono (push_imm _))) ⟨⟨(nm _ _ hx).1.symm, hlen ▸ .tup ⟨_, Heap.get?_push_size _ rfl⟩ ((hv.drop _).mono (push_imm _))⟩, trivial⟩
    · rw [List.length_drop, hvl]; unfold sizeLine; clear hvl hQ hv; omega

section
variable {C : Cx} {K : Frag} {Γ : GT} {cyc : String} {f : Addr} {fn : Fn}
theorem fnOk_of (X : K.In C.s₁.heap) (nm : ∀ x y, Γ.nm x = some y → Str.ofString y = x ∧ (x == ("__classdict__" : Str)) = false) (h : fnOf K Γ cyc f = some fn) : FnOk C Γ cyc f fn := by
  obtain ⟨x, h₁, h⟩ := bindS h
  obtain ⟨p, h₂, h⟩ := bindS h
  obtain ⟨ps, h₃, h⟩ := bindS h
  obtain ⟨vn, h₄, h⟩ := bindS h
  obtain ⟨c, h⟩ := orNone_eq h
  cases h
  obtain ⟨c₁, c⟩ := Bool.and_eq_true_iff.1 c
  obtain ⟨c₂, c₃⟩ := Bool.and_eq_true_iff.1 c
  exact fnHd_ok X h₁ rfl (args_ok nm (parOf_eq h₂) (noneV_eq c₁) h₃ h₄ (of_decide_eq_true c₂) (List.all_eq_true.1 c₃))
end
end Mine

end

section
open PySem PySem.W PyProof.Rows PySem.Calls
set_option Elab.async false
set_option backward.match.sparseCases false
set_option maxRecDepth 100000
set_option maxHeartbeats 2000000
namespace Mine

theorem ld_glob {M : Model} {A : Around} {E : Value → Shared → Prop} {Q : Value → Shared → Prop} {env : Env} {s : Shared} {x : Str} {mg : Str → Option Value} {v : Value} (hk : env.scope.kind = .function) (hg : env.globals = mainGlobals)
    (hx : env.kindOf x = some .globalImplicit) (G : s.heap.Ns mainGlobals mg) (hv : mg x = some v) (h : Q v s) : wpAny M A (loadName env x) Q E s := by
  have : wpAny M A (loadGlobal env x) Q E s := loadGlobal_global (by rw [hg]; exact G) hv h
  unfold loadName
  simp only [Env.blockKind, hk, hx, ScopeKind.isAnnotationScope, Bool.false_and, Bool.false_eq_true, if_false]
  exact this
theorem ld_blt {M : Model} {A : Around} {E : Value → Shared → Prop} {Q : Value → Shared → Prop} {env : Env} {s : Shared} {x : Str} {mg mb : Str → Option Value} {v : Value} (hk : env.scope.kind = .function) (hg : env.globals = mainGlobals) (hb : env.builtins = builtinsNs)
    (hx : env.kindOf x = some .globalImplicit) (G : s.heap.Ns mainGlobals mg) (hn : mg x = none) (B : s.heap.Ns builtinsNs mb) (hv : mb x = some v) (h : Q v s) : wpAny M A (loadName env x) Q E s := by
  have : wpAny M A (loadGlobal env x) Q E s := loadGlobal_builtin (by rw [hg]; exact G) hn (by rw [hb]; exact B) hv h
  unfold loadName
  simp only [Env.blockKind, hk, hx, ScopeKind.isAnnotationScope, Bool.false_and, Bool.false_eq_true, if_false]
  exact this

/-- what a table of names must show -/
def gOk (K : Frag) (x : String) : GI → Prop
  | .val (.int i) => ∃ t, nsIn K mainGlobals (Str.ofString x) = some (some (.int i t))
  | .val (.val v) => nsIn K mainGlobals (Str.ofString x) = some none ∧ bootBuiltins (Str.ofString x) = some v ∧ Str.ofString x ≠ "__name__"
  | .val _ => False
  | .prim p => nsIn K mainGlobals (Str.ofString x) = some none ∧ bootBuiltins (Str.ofString x) = some p.value ∧ Str.ofString x ≠ "__name__"
  | .fn a => nsIn K mainGlobals (Str.ofString x) = some (some (.ref a))
  | .cls a => nsIn K mainGlobals (Str.ofString x) = some (some (.ref a))

theorem globOk_of {C : Cx} {Γ : GT} {K : Frag} {mg mb : Str → Option Value} (X : K.In C.s₁.heap) (G : C.s₁.heap.Ns mainGlobals mg) (B : C.s₁.heap.Ns builtinsNs mb) (hb : ∀ x : Str, x ≠ "__name__" → mb x = bootBuiltins x)
    (h : ∀ x g, Γ.G x = some g → gOk K x g) : GlobOk C Γ := by
  intro x g hg
  have hq := h x g hg
  cases g with
  | val v =>
    cases v with
    | int i =>
      obtain ⟨t, e⟩ := hq
      exact ⟨.int i t, fun h => .int i t, fun M A E Q env s hk hgl hbl hx k hQ => ld_glob hk hgl hx (G.keeps k) (mg_of X G e) hQ⟩
    | val v =>
      obtain ⟨e, e2, e3⟩ := hq
      exact ⟨v, fun h => .val v, fun M A E Q env s hk hgl hbl hx k hQ => ld_blt hk hgl hbl hx (G.keeps k) (mg_none_of X G e) (B.keeps k) ((hb _ e3).trans e2) hQ⟩
    | none => exact hq.elim
    | bool b => exact hq.elim
    | tup l => exact hq.elim
    | range lo hi => exact hq.elim
    | ref a => exact hq.elim
    | vals d => exact hq.elim
  | prim p =>
    obtain ⟨e, e2, e3⟩ := hq
    exact ⟨p.value, fun h => .val _, fun M A E Q env s hk hgl hbl hx k hQ => ld_blt hk hgl hbl hx (G.keeps k) (mg_none_of X G e) (B.keeps k) ((hb _ e3).trans e2) hQ⟩
  | fn a => exact ⟨.ref a, fun h => .ref a, fun M A E Q env s hk hgl hbl hx k hQ => ld_glob hk hgl hx (G.keeps k) (mg_of X G hq) hQ⟩
  | cls a => exact ⟨.ref a, fun h => .ref a, fun M A E Q env s hk hgl hbl hx k hQ => ld_glob hk hgl hx (G.keeps k) (mg_of X G hq) hQ⟩

theorem excOk_of {C : Cx} {K : Frag} {mg mb : Str → Option Value} {cyc : Addr} {cycS : String} (X : K.In C.s₁.heap) (G : C.s₁.heap.Ns mainGlobals mg) (B : C.s₁.heap.Ns builtinsNs mb) (hb : ∀ x : Str, x ≠ "__name__" → mb x = bootBuiltins x)
    (hc : nsIn K mainGlobals (Str.ofString cycS) = some (some (.ref cyc))) (nd : (Str.ofString cycS == ("__debug__" : Str)) = false) {Bn newId initId : String} {bmB : List Value} {D : Addr} (FB : ExcBaseFacts Bn newId initId bmB) (OC : OwnCls (Str.ofString cycS) D bmB newId mg C.s₁.heap)
    (hs : nsIn K mainGlobals (Str.ofString "StopIteration") = some none) : ExcOk C cyc cycS := by
  have hD := OC.bound
  rw [mg_of X G hc] at hD
  cases hD
  refine ⟨fun M A E Q env s hk hgl hbl hx k hQ => ld_glob hk hgl hx (G.keeps k) (mg_of X G hc) hQ, nd, ⟨_, _, _, _, _, FB, OC⟩, fun M A E Q env s hk hgl hbl hx k hQ => ?_⟩
  exact ld_blt hk hgl hbl hx (G.keeps k) (mg_none_of X G hs) (B.keeps k) ((hb _ (by decide)).trans (by rfl)) hQ

section
variable {C : Cx} {cyc : Addr} {K : Frag} {T : Tb} {Γ : GT} {cycS : String}

/-- the law itself is called -/
theorem law_start {d : Nat} (ck : CxOk C) (nm : ∀ x y, Γ.nm x = some y → Str.ofString y = x ∧ (x == ("__classdict__" : Str)) = false)
    (hs : ∀ n sc sts, SndSs C cyc T d (callW T d) sc sts (cSs Γ cycS n sc sts)) {f a : Addr} {fn : Fn} (FO : FnOk C Γ cycS f fn) {ns : List Int} {bs : List (String × AV)} (hb : bindArgsA fn [.ref a] = some bs)
    (hl : ∃ o vs n, C.s₁.heap.get? a = some o ∧ o.cls = .type "list" ∧ o.data = .seq vs n ∧ IntsAre vs.toList ns) (hd : d ≤ 20)
    (hw : execsW T (callW T d) fn.body (fun fl _ => fl = .ret (.bool true)) ⟨fun x => bs.lookup x, fun b => if b = a then some (.script ns) else none⟩)
    {R : Result → Shared → Prop} (hR : ∀ h t, (∀ b o, C.s₁.heap.get? b = some o → h.get? b = some o) → R (.ok (.ret (.bool true))) { C.s₁ with heap := h, toks := t }) :
    codeAny (model C.prog C.w) callerA (.call (.ref f) ⟨[.ref a], []⟩) R C.s₁ := by
  obtain ⟨o, fd, body, sc', n, f1, f2, f3, f4, f5, f6, f7, f8, f9, f10, f11, f12, f13, f14⟩ := FO.ex
  obtain ⟨b1, b2, b3⟩ := f14 [.ref a] bs [.ref a] C.s₁ (fun _ _ e => e) (.cons (.ref a) .nil) hb
  refine codeAny_call_function (by decide) f1 f2 f3 f4 f5 f6 (b3 _ _ _ _ fun binds h₁ k1 br => ?_)
  rw [f9]
  have fresh : ∀ a, h₁.objs.size ≤ a → C.s₁.heap.get? a = none := fun a ha => by
    cases q : C.s₁.heap.get? a with
    | none => rfl
    | some o => exact absurd (Heap.lt_size (k1 _ _ q)) (Nat.not_lt.mpr ha)
  obtain ⟨ol, lvs, ln, l1, l2, l3, l4⟩ := hl
  have fr : ∀ b, h₁.objs.size ≤ b → Free C (fun _ => none) (fun b => if b = a then some (.script ns) else none) b := fun b hb' => by
    refine ⟨?_, rfl, fresh b hb'⟩
    have : b ≠ a := by rintro rfl; rw [fresh b hb'] at l1; cases l1
    simp [this]
  refine enter_def nm f10 f11 f12 f7 f8 b1 b2 br fr fun env' s₂ O' e_frame e_scope k2 hs2 F' => ?_
  · obtain ⟨h2, tk, hs2⟩ := hs2
    have k02 : ∀ b o, C.s₁.heap.get? b = some o → s₂.heap.get? b = some o := fun b o e => k2 _ _ (k1 _ _ e)
    have hs3 : s₂ = { C.s₁ with heap := s₂.heap, toks := s₂.toks } := by rw [hs2]
    have R2 : RS C sc' (fun _ => none) env' ⟨fun x => bs.lookup x, fun b => if b = a then some (.script ns) else none⟩ s₂ := by
      refine ⟨⟨_, _, hs3⟩, k02, (fun _ _ e => by cases e), fun b o e => ?_, fun b o e => ?_, F', fun b c d l e => ?_⟩
      · dsimp only at e
        split at e
        · rename_i q; subst q; cases e
          exact ⟨_, k02 _ _ l1, l2, lvs, ln, l3, l4⟩
        · cases e
      · dsimp only at e
        split at e
        · rename_i q; subst q; cases e
          exact .inr ⟨trivial, by rw [l1]; nofun⟩
        · cases e
      · dsimp only at e
        split at e <;> cases e
    refine ⟨(ck.nolimit.keeps R2.keep), codeAny_func ?_⟩
    have hA : (callerA.deeper env').frames = some [env'] := rfl
    have FA' : FS C (callerA.deeper env') (fun _ => none) env'.locals := by
      refine ⟨[env'], hA, fun e he => ?_⟩
      rcases List.mem_cons.mp he with rfl | he
      · exact ⟨by rw [e_scope, f10]; decide, _, e_frame, R2.fr.locF.2.2, .inl rfl⟩
      · cases he
    have OA' : OkA (d + 1) (callerA.deeper env') := by
      refine ⟨rfl, ?_, ?_, ⟨env', [], hA, by rw [e_scope]; exact f4, by rw [e_scope]; exact f3, O'.blt, O'.glob⟩⟩
      · show 1 + claimMargin + 1 + _ < _; unfold claimMargin; omega
      · show 4 + 3 + _ < _; omega
    have HA : FnA (callerA.deeper env') env' := ⟨e_frame, [], hA⟩
    rw [f13] at hw
    refine wpAny_mono (hs n sc' body _ _ _ _ _ _ _ O' HA OA' FA' R2 hw ?_) ?_ fun _ _ e => e
    · rintro e s' ⟨x, τ, e1, R3, i3, X3, q⟩
      cases q
    · rintro fl s' ⟨af, τ, frl, R3, i3, q⟩
      subst q
      cases frl with
      | ret hv =>
        cases hv
        obtain ⟨h, t, rfl⟩ := R3.same
        exact hR h t R3.keep
end
end Mine

end

section
open PySem PySem.W PyProof.Rows PySem.Calls
set_option Elab.async false
set_option backward.match.sparseCases false
set_option maxRecDepth 100000
set_option maxHeartbeats 2000000
namespace Mine
noncomputable def isOne (l : List Value) : Bool := match l with
  | [v] => noneV v
  | _ => false
theorem isOne_eq {items : Array Value} (h : isOne items.toList = true) : items = #[.none] := by
  have : items.toList = [.none] := by
    generalize items.toList = l at h
    match l, h with
    | [v], h => rw [noneV_eq h]
    | [], h => cases h
    | _ :: _ :: _, h => cases h
  have h2 : items = items.toList.toArray := by simp
  rw [h2, this]

/-- a def whose last parameter has the default None -/
noncomputable def fnOfD (K : Frag) (Γ : GT) (cyc : String) (f : Addr) : Option Fn :=
  (fnHd K Γ f).bind fun x => (parOf x.1.params).bind fun p => (two p.1).bind fun ab => (refOf x.1.defaults).bind fun T => (K.lookup T).bind fun o => (seqOf o.data).bind fun q => (Γ.nm ab.1.arg).bind fun pa => (Γ.nm ab.2.arg).bind fun pb =>
    orNone (p.2.1.isNone && (isOne q.1.toList && (pa != pb && (x.2.2.mine pa && x.2.2.mine pb)))) (some ⟨[pa, pb], none, [(pb, .none)], cSs Γ cyc 60 x.2.2 x.2.1⟩)

theorem bindA_one {pa pb : String} {body : List MS} {args : List AV} {bs : List (String × AV)} (h : bindArgsA ⟨[pa, pb], none, [(pb, .none)], body⟩ args = some bs) : ∃ x, args = [x] ∧ bs = [(pa, x), (pb, .none)] := by
  match args, h with
  | [], h => cases h
  | [x], h =>
    refine ⟨x, rfl, ?_⟩
    have e : ([(pb, AV.none)] : List (String × AV)).lookup pb = some .none := by rw [List.lookup_cons, beq_self_eq_true]
    have h : (match ([pb].mapM fun p => (([(pb, AV.none)] : List (String × AV)).lookup p).map fun v => (p, v)) with
      | none => none
      | some ds => some ([(pa, x)] ++ ds ++ [])) = some bs := h
    rw [List.mapM_cons, e] at h
    cases h; rfl
  | _ :: _ :: l, h =>
    unfold bindArgsA at h
    rw [if_pos (by rw [Bool.or_eq_true]; exact .inr rfl)] at h
    cases h
section
variable {C : Cx} {K : Frag} {Γ : GT} {cyc : String} {f : Addr} {fn : Fn}
theorem args_dflt (nm : ∀ x y, Γ.nm x = some y → Str.ofString y = x ∧ (x == ("__classdict__" : Str)) = false) {sc : Sc} {fd : FuncData} {a b : Arg} {kd : List (Option Expr)} {df : List Expr} {pa pb : String} {body : List MS} {T : Addr} {o : Obj} {n : Nat}
    (hp : fd.params = ⟨[], [a, b], none, [], kd, none, df⟩) (hd : fd.defaults = .ref T) (hT : C.s₁.heap.get? T = some o) (hs : o.data = .seq #[.none] n) (ha : Γ.nm a.arg = some pa) (hb : Γ.nm b.arg = some pb) (hn : pa ≠ pb) (c₁ : sc.mine pa = true) (c₂ : sc.mine pb = true) :
    ArgsOk sc fd ⟨[pa, pb], none, [(pb, .none)], body⟩ C := by
  intro args bs vals s hk hv hbs
  obtain ⟨x, rfl, rfl⟩ := bindA_one hbs
  obtain ⟨v, rfl, hx⟩ := hv.one_inv
  have ea := (nm _ _ ha).1
  have eb := (nm _ _ hb).1
  refine ⟨List.nodup_cons.2 ⟨fun m => hn (List.mem_singleton.1 m), List.pairwise_singleton _ _⟩, fun p m => ?_, fun M A E Q hQ => ?_⟩
  · rcases List.mem_cons.1 m with rfl | m
    · exact Sc.mine_eq c₁
    · rw [List.mem_singleton.1 m]; exact Sc.mine_eq c₂
  · exact bind_dflt hp hd (hk _ _ hT) hs (fun q => hn (ofString_inj (by rw [ea, eb, q]))) M A E Q (hQ _ s.heap (fun _ _ e => e) ⟨⟨ea.symm, hx⟩, ⟨eb.symm, .none⟩, trivial⟩)
theorem fnOk_ofD (X : K.In C.s₁.heap) (nm : ∀ x y, Γ.nm x = some y → Str.ofString y = x ∧ (x == ("__classdict__" : Str)) = false) (h : fnOfD K Γ cyc f = some fn) : FnOk C Γ cyc f fn := by
  obtain ⟨x, h₁, h⟩ := bindS h
  obtain ⟨p, h₂, h⟩ := bindS h
  obtain ⟨ab, h₃, h⟩ := bindS h
  obtain ⟨T, h₄, h⟩ := bindS h
  obtain ⟨o, h₅, h⟩ := bindS h
  obtain ⟨q, h₆, h⟩ := bindS h
  obtain ⟨pa, h₇, h⟩ := bindS h
  obtain ⟨pb, h₈, h⟩ := bindS h
  obtain ⟨c, h⟩ := orNone_eq h
  cases h
  obtain ⟨c₁, c⟩ := Bool.and_eq_true_iff.1 c
  obtain ⟨c₂, c⟩ := Bool.and_eq_true_iff.1 c
  obtain ⟨c₃, c⟩ := Bool.and_eq_true_iff.1 c
  obtain ⟨c₄, c₅⟩ := Bool.and_eq_true_iff.1 c
  have hp := parOf_eq h₂
  rw [two_eq h₃, Option.isNone_iff_eq_none.1 c₁] at hp
  exact fnHd_ok X h₁ rfl (args_dflt nm hp (refOf_eq h₄) (X _ _ h₅) (by rw [seqOf_eq h₆, isOne_eq c₂]) h₇ h₈ (bne_iff_ne.1 c₃) c₄ c₅)
end
end Mine

end

section
open PySem PySem.W PyProof.Rows PySem.Calls
set_option Elab.async false
set_option backward.match.sparseCases false
set_option maxRecDepth 100000
namespace Mine

theorem ins_eq {H : Hp} {a : Addr} {o : AO} : H.ins a o a = some o := if_pos rfl
theorem ins_ne {H : Hp} {a b : Addr} {o : AO} (h : b ≠ a) : H.ins a o b = H b := if_neg h
theorem ins_get {H : Hp} {a b : Addr} {o p : AO} (h : b ≠ a) (k : H b = some p) : H.ins a o b = some p := (if_neg h).trans k
theorem ne_of {H : Hp} {a b : Addr} {o p : AO} (h : H a = some o) (k : H b = some p) (n : o ≠ p) : a ≠ b :=
  fun e => n (Option.some.inj (h.symm.trans ((congrArg H e).trans k)))
theorem ne_fresh {H : Hp} {a b : Addr} {o : AO} (h : H a = some o) (k : H b = none) : a ≠ b :=
  fun e => nomatch h.symm.trans ((congrArg H e).trans k)
theorem ins_fresh {H : Hp} {a b : Addr} {o p : AO} (k : H b = some p) (h : H a = none) : H.ins a o b = some p := ins_get (ne_fresh k h) k

/-- what was there is as it was -/
def Ext (H H' : Hp) : Prop := ∀ a o, H a = some o → H' a = some o
theorem Ext.rfl {H : Hp} : Ext H H := fun _ _ h => h
theorem Ext.trans {H H' H'' : Hp} (h : Ext H H') (k : Ext H' H'') : Ext H H'' := fun a o e => k a o (h a o e)
theorem Ext.ins {H H' : Hp} {a : Addr} {o : AO} (h : Ext H H') (k : H a = none) : Ext H (H'.ins a o) := fun _ _ e => ins_get (ne_fresh e k) (h _ _ e)
theorem Ext.ins' {H : Hp} {a : Addr} {o : AO} (k : H a = none) : Ext H (H.ins a o) := Ext.rfl.ins k
theorem Ext.none {H H' : Hp} {a : Addr} (h : Ext H H') (k : H' a = none) : H a = none := by
  cases e : H a with
  | none => rfl
  | some o => exact nomatch (h a o e).symm.trans k
/-- all but these is as it was -/
def Fr (P : Addr → Prop) (H H' : Hp) : Prop := ∀ a o, H a = some o → ¬ P a → H' a = some o

def up {α : Type} (f : Int → α) (k : Int) (v : α) : Int → α := fun j => if j = k then v else f j
theorem up_eq {α : Type} {f : Int → α} {k : Int} {v : α} : up f k v k = v := if_pos rfl
theorem up_ne {α : Type} {f : Int → α} {k j : Int} {v : α} (h : j ≠ k) : up f k v j = f j := if_neg h

variable {T : Tb} {ct : CT} {Q : VK} {F : FK} {σ : AS} {r : List MS}

def seqK (T : Tb) (ct : CT) (r : List MS) (F : FK) : FK := fun f σ => match f with | .next => execsW T ct r F σ | f => F f σ

theorem x_nil (h : F .next σ) : execsW T ct [] F σ := h
theorem x_end (h : execsW T ct r F σ) : execsW T ct [] (seqK T ct r F) σ := h
theorem x_asg {x e} (h : evalW T ct e (fun v σ₁ => execsW T ct r F (σ₁.set x v)) σ) : execsW T ct (.assign (.name x) e :: r) F σ := h
theorem x_tup {xs e} (h : evalW T ct e (fun v σ₁ => ∃ vs, v = .tup vs ∧ vs.length = xs.length ∧ execsW T ct r F (σ₁.setAll xs vs)) σ) : execsW T ct (.assign (.tup xs) e :: r) F σ := h
theorem x_asgA {o m e} (h : evalW T ct e (fun v σ₁ => evalW T ct o (fun ov σ₂ => setAttrW T ov m v (fun σ₃ => execsW T ct r F σ₃) σ₂) σ₁) σ) : execsW T ct (.assign (.attr o m) e :: r) F σ := h
theorem x_asgS {o i e} (h : evalW T ct e (fun v σ₁ => evalW T ct o (fun ov σ₂ => evalW T ct i (fun iv σ₃ => setItemW ov iv v (fun σ₄ => execsW T ct r F σ₄) σ₃) σ₂) σ₁) σ) : execsW T ct (.assign (.sub o i) e :: r) F σ := h
theorem x_asg2 {o i e x} (h : evalW T ct e (fun v σ₁ => evalW T ct o (fun ov σ₂ => evalW T ct i (fun iv σ₃ => setItemW ov iv v (fun σ₄ => execsW T ct r F (σ₄.set x v)) σ₃) σ₂) σ₁) σ) : execsW T ct (.assign2 (.sub o i) (.name x) e :: r) F σ := h
theorem x_augS {o i op e} (h : evalW T ct o (fun ov σ₁ => evalW T ct i (fun iv σ₂ => subW ov iv (fun old σ₃ => evalW T ct e (fun v σ₄ => binW op old v (fun n σ₅ => (∃ k, n = .int k) ∧ setItemW ov iv n (fun σ₆ => execsW T ct r F σ₆) σ₅) σ₄) σ₃) σ₂) σ₁) σ) : execsW T ct (.augSub o i op e :: r) F σ := h
theorem x_augA {o m op e} (h : evalW T ct o (fun ov σ₁ => getAttrW T ov m (fun old σ₃ => evalW T ct e (fun v σ₄ => binW op old v (fun n σ₅ => (∃ k, n = .int k) ∧ setAttrW T ov m n (fun σ₆ => execsW T ct r F σ₆) σ₅) σ₄) σ₃) σ₁) σ) : execsW T ct (.augAttr o m op e :: r) F σ := h
theorem x_expr {e} (h : evalW T ct e (fun _ σ₁ => execsW T ct r F σ₁) σ) : execsW T ct (.expr e :: r) F σ := h
theorem x_ret {e} (h : evalW T ct e (fun v σ₁ => F (.ret v) σ₁) σ) : execsW T ct (.ret e :: r) F σ := h
theorem x_if {c a b} (h : condW T ct c (fun t σ₁ => if t then execsW T ct a (seqK T ct r F) σ₁ else execsW T ct b (seqK T ct r F) σ₁) σ) : execsW T ct (.ifS c a b :: r) F σ := h
theorem x_brk (h : F .brk σ) : execsW T ct (.brk :: r) F σ := h
theorem x_cont (h : F .cont σ) : execsW T ct (.cont :: r) F σ := h
theorem x_for {t it body} (h : evalW T ct it (fun src σ₁ => iterW src (fun chk items => forLoopW chk (fun v K τ => bindT t v (fun τ₁ => execsW T ct body K τ₁) τ) items (seqK T ct r F) σ₁) σ₁) σ) : execsW T ct (.forS t it body :: r) F σ := h
theorem x_while {c body els} (I : Nat → AS → Prop) (n : Nat) (h : I n σ) (k : ∀ n τ, I n τ → condW T ct c (fun b τ₁ =>
      if b then execsW T ct body (fun f τ₂ => match f with | .next | .cont => ∃ k, k < n ∧ I k τ₂ | .brk => execsW T ct r F τ₂ | .ret v => F (.ret v) τ₂ | .exc => False) τ₁
      else execsW T ct els (fun f τ₂ => match f with | .exc => False | f => seqK T ct r F f τ₂) τ₁) τ) : execsW T ct (.whileS c body els :: r) F σ := ⟨I, ⟨n, h⟩, k⟩
theorem x_next {x its d st} (h : tryNextW x its d st (seqK T ct r F) σ) : execsW T ct (.tryNext x its d st :: r) F σ := h

theorem w_const {v} (h : Q v σ) : evalW T ct (.const v) Q σ := h
theorem w_gl {x v} (h : Q v σ) : evalW T ct (.gl x v) Q σ := h
theorem w_var {x v} (h : σ.loc x = some v) (k : Q v σ) : evalW T ct (.var x) Q σ := ⟨v, h, k⟩
theorem w_bin {op l e} (h : evalW T ct l (fun a σ₁ => evalW T ct e (fun b σ₂ => binW op a b Q σ₂) σ₁) σ) : evalW T ct (.bin op l e) Q σ := h
theorem w_cmp {op l e} (h : evalW T ct l (fun a σ₁ => evalW T ct e (fun b σ₂ => cmpW op a b (fun c => Q (.bool c) σ₂) σ₂) σ₁) σ) : evalW T ct (.cmp op l e) Q σ := h
theorem w_neg {e} (h : evalW T ct e (fun a σ₁ => ∃ i, a = .int i ∧ Q (.int (-i)) σ₁) σ) : evalW T ct (.neg e) Q σ := h
theorem w_ife {c a b} (h : condW T ct c (fun t σ₁ => if t then evalW T ct a Q σ₁ else evalW T ct b Q σ₁) σ) : evalW T ct (.ife c a b) Q σ := h
theorem w_wal {x e} (h : evalW T ct e (fun v σ₁ => Q v (σ₁.set x v)) σ) : evalW T ct (.walrus x e) Q σ := h
theorem w_p0 {p} (h : primW p [] Q σ) : evalW T ct (.pcall p []) Q σ := h
theorem w_p1 {p e} (h : evalW T ct e (fun v σ₁ => primW p [v] Q σ₁) σ) : evalW T ct (.pcall p [e]) Q σ := h
theorem w_p2 {p e f} (h : evalW T ct e (fun v σ₁ => evalW T ct f (fun w σ₂ => primW p [v, w] Q σ₂) σ₁) σ) : evalW T ct (.pcall p [e, f]) Q σ := h
theorem w_f2 {f a b} (h : evalW T ct a (fun v σ₁ => evalW T ct b (fun w σ₂ => ct f [v, w] Q (fun _ => False) σ₂) σ₁) σ) : evalW T ct (.fcall f [a, b]) Q σ := h
theorem w_n0 {c} (h : newW T c [] ct Q σ) : evalW T ct (.ncall c []) Q σ := h
theorem w_n1 {c a} (h : evalW T ct a (fun v σ₁ => newW T c [v] ct Q σ₁) σ) : evalW T ct (.ncall c [a]) Q σ := h
theorem w_m0 {o m} (h : evalW T ct o (fun ov σ₁ => calleeW T ov m (fun f => f [] Q (fun _ => False) σ₁) ct σ₁) σ) : evalW T ct (.meth o m []) Q σ := h
theorem w_m1 {o m a} (h : evalW T ct o (fun ov σ₁ => calleeW T ov m (fun f => evalW T ct a (fun v σ₂ => f [v] Q (fun _ => False) σ₂) σ₁) ct σ₁) σ) : evalW T ct (.meth o m [a]) Q σ := h
theorem w_m2 {o m a b} (h : evalW T ct o (fun ov σ₁ => calleeW T ov m (fun f => evalW T ct a (fun v σ₂ => evalW T ct b (fun w σ₃ => f [v, w] Q (fun _ => False) σ₃) σ₂) σ₁) ct σ₁) σ) : evalW T ct (.meth o m [a, b]) Q σ := h
theorem w_mS {o m a} (h : evalW T ct o (fun ov σ₁ => ∃ x c dd l f, ov = .ref x ∧ σ₁.heap x = some (.inst c dd) ∧ σ₁.heap dd = some (.ns l) ∧ l.lookup m = none ∧ T.meth c m = some f ∧ evalW T ct a (fun v σ₂ => ∃ vs, v = .tup vs ∧ vs.length < 1000000 ∧ ct f (.ref x :: vs) Q (fun _ => False) σ₂) σ₁) σ) : evalW T ct (.methS o m a) Q σ := h
theorem w_attr {o m} (h : evalW T ct o (fun ov σ₁ => getAttrW T ov m Q σ₁) σ) : evalW T ct (.attr o m) Q σ := h
theorem w_sub {o i} (h : evalW T ct o (fun ov σ₁ => evalW T ct i (fun iv σ₂ => subW ov iv Q σ₂) σ₁) σ) : evalW T ct (.sub o i) Q σ := h
theorem w_sl1 {o lo} (h : evalW T ct o (fun ov σ₁ => evalW T ct lo (fun l σ₂ => sliceW ov (some l) none Q σ₂) σ₁) σ) : evalW T ct (.slice o (some lo) none) Q σ := h
theorem w_sl2 {o hi} (h : evalW T ct o (fun ov σ₁ => evalW T ct hi (fun l σ₂ => sliceW ov none (some l) Q σ₂) σ₁) σ) : evalW T ct (.slice o none (some hi)) Q σ := h
theorem w_list {es} (h : evalsW T ct es (fun vs σ₁ => ∀ a, σ₁.heap a = none → Q (.ref a) (σ₁.ins a (.list vs))) σ) : evalW T ct (.list es) Q σ := h
theorem w_tup {es} (h : evalsW T ct es (fun vs σ₁ => Q (.tup vs) σ₁) σ) : evalW T ct (.tup es) Q σ := h
theorem w_dict (h : ∀ a, σ.heap a = none → Q (.ref a) (σ.ins a (.dict [] 0))) : evalW T ct .dict0 Q σ := h
theorem ws_nil {K : LK} (h : K [] σ) : evalsW T ct [] K σ := h
theorem ws_cons {K : LK} {e l} (h : evalW T ct e (fun v σ₁ => evalsW T ct l (fun vs σ₂ => K (v :: vs) σ₂) σ₁) σ) : evalsW T ct (e :: l) K σ := h
theorem w_comp {vs elt t it ifs gs} (h : evalW T ct it (fun src σ₁ => iterW src (fun chk items =>
      loopW chk (fun v acc k τ => bindT t v (fun τ₁ => condsW T ct ifs (fun b τ₂ => if b then compW T ct gs (fun acc k τ => evalW T ct elt (fun v σ₁ => acc.length < 1000000 ∧ k (acc ++ [v]) σ₁) τ) acc k τ₂ else k acc τ₂) τ₁) τ) items []
        (fun acc τ => ∀ a, τ.heap a = none → Q (.ref a) (AS.ins ⟨σ₁.loc, τ.heap⟩ a (.list acc))) ⟨fun x => if x ∈ vs then none else σ₁.loc x, σ₁.heap⟩) σ₁) σ) : evalW T ct (.comp vs elt t it ifs gs) Q σ := h

variable {K : Bool → AS → Prop}
theorem c_plain {e} (h : evalW T ct e (fun v σ₁ => truthW v (fun b => K b σ₁) σ₁) σ) : condW T ct (.plain e) K σ := h
theorem c_not {c} (h : condW T ct c (fun b σ₁ => K (!b) σ₁) σ) : condW T ct (.not c) K σ := h
theorem c_cmp {op l e} (h : evalW T ct l (fun a σ₁ => evalW T ct e (fun b σ₂ => cmpW op a b (fun c => K c σ₂) σ₂) σ₁) σ) : condW T ct (.cmp op l e) K σ := h
theorem c_and {cs} (h : condsW T ct cs K σ) : condW T ct (.and cs) K σ := h
theorem c_or {cs} (h : condsOW T ct cs K σ) : condW T ct (.or cs) K σ := h
theorem cs_nil (h : K true σ) : condsW T ct [] K σ := h
theorem cs_cons {c l} (h : condW T ct c (fun b σ₁ => if b then condsW T ct l K σ₁ else K false σ₁) σ) : condsW T ct (c :: l) K σ := h
theorem co_nil (h : K false σ) : condsOW T ct [] K σ := h
theorem co_cons {c l} (h : condW T ct c (fun b σ₁ => if b then K true σ₁ else condsOW T ct l K σ₁) σ) : condsOW T ct (c :: l) K σ := h
end Mine

end

section
open PySem PySem.W PyProof.Rows PySem.Calls
set_option Elab.async false
set_option backward.match.sparseCases false
set_option maxRecDepth 100000
namespace Mine
variable {T : Tb} {ct : CT} {Q : VK} {F : FK} {σ : AS} {R : AS → Prop} {a d : Addr} {c : Addr} {m : String} {v : AV}

theorem g_inst {l} (h₁ : σ.heap a = some (.inst c d)) (hm : m ∈ T.attrs c) (h₂ : σ.heap d = some (.ns l)) (h₃ : l.lookup m = some v) (hp : v.plain) (k : Q v σ) : getAttrW T (.ref a) m Q σ := by
  unfold getAttrW; dsimp only; rw [h₁]; exact ⟨hm, l, v, h₂, h₃, hp, k⟩
theorem g_slot {l ss i} (h₁ : σ.heap a = some (.slots c d l)) (h₂ : T.slots c = some ss) (h₃ : ss.idxOf? m = some i) (h₄ : l[i]? = some (some v)) (hp : v.plain) (k : Q v σ) : getAttrW T (.ref a) m Q σ := by
  unfold getAttrW; dsimp only; rw [h₁]; exact ⟨ss, i, v, h₂, h₃, h₄, hp, k⟩
theorem g_next {l i} (h₁ : σ.heap a = some (.iter l i)) (k : ∀ b, σ.heap b = none → Q (.ref b) (σ.ins b (.next a))) : getAttrW T (.ref a) "__next__" Q σ := by
  unfold getAttrW; dsimp only; rw [h₁]; exact ⟨rfl, k⟩
theorem s_inst {l} (h₁ : σ.heap a = some (.inst c d)) (hm : m ∈ T.attrs c) (h₂ : σ.heap d = some (.ns l)) (hl : l.length < 1000) (k : R (σ.ins d (.ns (nsPut l m v)))) : setAttrW T (.ref a) m v R σ := by
  unfold setAttrW; dsimp only; rw [h₁]; exact ⟨hm, l, h₂, hl, k⟩
theorem s_slot {l ss i} (h₁ : σ.heap a = some (.slots c d l)) (h₂ : T.slots c = some ss) (h₃ : ss.idxOf? m = some i) (k : R (σ.ins a (.slots c d ((l ++ List.replicate (i + 1 - l.length) none).set i (some v))))) : setAttrW T (.ref a) m v R σ := by
  unfold setAttrW; dsimp only; rw [h₁]; exact ⟨ss, i, h₂, h₃, k⟩
theorem sub_list {l} {k : Int} (h : σ.heap a = some (.list l)) (hl : l.length < 1000000) (hk : 0 ≤ k) (hv : l[k.toNat]? = some v) (q : Q v σ) : subW (.ref a) (.int k) Q σ := by
  unfold subW; dsimp only; rw [h]; exact ⟨hl, v, .inl ⟨hk, hv⟩, q⟩
theorem sub_dict {l ep} {k : Int} (h : σ.heap a = some (.dict l ep)) (hv : l.lookup k = some v) (q : Q v σ) : subW (.ref a) (.int k) Q σ := by
  unfold subW; dsimp only; rw [h]; exact ⟨v, hv, q⟩
theorem sub_scr {l n} {k : Int} (h : σ.heap a = some (.script l)) (hk : 0 ≤ k) (hl : l.length < 1000000) (hv : l[k.toNat]? = some n) (q : Q (.int n) σ) : subW (.ref a) (.int k) Q σ := by
  unfold subW; dsimp only; rw [h]; exact ⟨hk, n, hv, hl, q⟩
theorem set_list {l} {k : Int} (h : σ.heap a = some (.list l)) (hk : 0 ≤ k) (hl : k < l.length) (hm : l.length < 1000000) (q : R (σ.ins a (.list (l.set k.toNat v)))) : setItemW (.ref a) (.int k) v R σ := by
  unfold setItemW; dsimp only; rw [h]; exact ⟨hk, hl, hm, q⟩
theorem set_dict {l ep} {k : Int} (h : σ.heap a = some (.dict l ep)) (hl : l.length < 1000000) (hn : l.lookup k = none) (q : ∀ ep, R (σ.ins a (.dict (l ++ [(k, v)]) ep))) : setItemW (.ref a) (.int k) v R σ := by
  unfold setItemW; dsimp only; rw [h]; refine ⟨hl, fun ep => ?_⟩; rw [hn]; exact q ep
theorem cal_inst {l f} {K : (List AV → VK → (AS → Prop) → AS → Prop) → Prop} (h₁ : σ.heap a = some (.inst c d)) (h₂ : σ.heap d = some (.ns l)) (h₃ : l.lookup m = none) (h₄ : T.meth c m = some f) (k : K (fun as Q X τ => ct f (.ref a :: as) Q X τ)) : calleeW T (.ref a) m K ct σ := by
  unfold calleeW; dsimp only; rw [h₁]; exact ⟨l, f, h₂, h₃, h₄, k⟩
theorem cal_list {l} {K : (List AV → VK → (AS → Prop) → AS → Prop) → Prop} (h₁ : σ.heap a = some (.list l)) (hm : m ∈ ["append", "extend", "pop", "clear", "index", "count"]) (k : K (fun as Q _ τ => ∃ l, τ.heap a = some (.list l) ∧ biMethW a (.list l) m as Q τ)) : calleeW T (.ref a) m K ct σ := by
  unfold calleeW; dsimp only; rw [h₁]; exact ⟨hm, k⟩
theorem cal_dict {l ep} {K : (List AV → VK → (AS → Prop) → AS → Prop) → Prop} (h₁ : σ.heap a = some (.dict l ep)) (hm : m ∈ ["get", "values"]) (k : K (fun as Q _ τ => ∃ l ep, τ.heap a = some (.dict l ep) ∧ biMethW a (.dict l ep) m as Q τ)) : calleeW T (.ref a) m K ct σ := by
  unfold calleeW; dsimp only; rw [h₁]; exact ⟨hm, k⟩
theorem cal_set {l} {K : (List AV → VK → (AS → Prop) → AS → Prop) → Prop} (h₁ : σ.heap a = some (.set l)) (hl : l.length < 4000) (k : K (fun as Q _ τ => ∃ l, τ.heap a = some (.set l) ∧ biMethW a (.set l) "add" as Q τ)) : calleeW T (.ref a) "add" K ct σ := by
  unfold calleeW; dsimp only; rw [h₁]; exact ⟨.head _, hl, k⟩
theorem b_append {l} (hl : l.length < 1000000) (k : Q .none (σ.ins a (.list (l ++ [v])))) : biMethW a (.list l) "append" [v] Q σ := ⟨hl, v, rfl, k⟩
theorem b_extT {l l'} (hl : l.length < 1000000) (hl' : l'.length < 1000000) (k : Q .none (σ.ins a (.list (l ++ l')))) : biMethW a (.list l) "extend" [.tup l'] Q σ := ⟨hl, .inl ⟨l', rfl, hl', k⟩⟩
theorem b_extL {l l' b} (hl : l.length < 1000000) (h : σ.heap b = some (.list l')) (hl' : l'.length < 1000000) (k : Q .none (σ.ins a (.list (l ++ l')))) : biMethW a (.list l) "extend" [.ref b] Q σ := ⟨hl, .inr ⟨b, l', rfl, h, hl', k⟩⟩
theorem b_clear {l} (hl : l.length < 1000000) (q : Q .none (σ.ins a (.list []))) : biMethW a (.list l) "clear" [] Q σ := ⟨hl, rfl, q⟩
theorem b_get {l ep} {k : Int} (q : Q ((l.lookup k).getD .none) σ) : biMethW a (.dict l ep) "get" [.int k] Q σ := ⟨k, rfl, q⟩
theorem b_vals {l ep} (q : Q (.vals a) σ) : biMethW a (.dict l ep) "values" [] Q σ := ⟨rfl, q⟩
theorem b_add {l} {k : Int} (hl : l.length < 4000) (q : Q .none (σ.ins a (.set (if k ∈ l then l else k :: l)))) : biMethW a (.set l) "add" [.int k] Q σ := ⟨k, rfl, hl, q⟩
theorem in_set {l} {k : Int} {K : Bool → Prop} (h : σ.heap a = some (.set l)) (hl : l.length < 4000) (q : K (decide (k ∈ l))) : inW (.int k) (.ref a) K σ := by
  delta inW refW; dsimp only; rw [h]; exact ⟨hl, q⟩
theorem in_dict {l ep} {k : Int} {K : Bool → Prop} (h : σ.heap a = some (.dict l ep)) (q : K (decide (k ∈ l.map (·.1)))) : inW (.int k) (.ref a) K σ := by
  delta inW refW; dsimp only; rw [h]; exact q
theorem in_list {ns : List Int} {k : Int} {K : Bool → Prop} (h : σ.heap a = some (.list (ns.map .int))) (hl : ns.length < 1000000) (q : K (decide (k ∈ ns))) : inW (.int k) (.ref a) K σ := by
  delta inW refW; dsimp only; rw [h]; exact ⟨ns, rfl, hl, q⟩

theorem i_list {l} {K : (AS → Prop) → List AV → Prop} (h : σ.heap a = some (.list l)) (k : K (fun τ => τ.heap a = some (.list l)) l) : iterW (.ref a) K σ := by
  unfold iterW; dsimp only; rw [h]; exact k
theorem i_dict {l ep} {K : (AS → Prop) → List AV → Prop} (h : σ.heap a = some (.dict l ep)) (k : K (fun τ => τ.heap a = some (.dict l ep)) (l.map fun p => .int p.1)) : iterW (.ref a) K σ := by
  unfold iterW; dsimp only; rw [h]; exact k
theorem i_vals {l ep} {K : (AS → Prop) → List AV → Prop} (h : σ.heap a = some (.dict l ep)) (k : K (fun τ => τ.heap a = some (.dict l ep)) (l.map (·.2))) : iterW (.vals a) K σ := by
  unfold iterW; dsimp only; rw [h]; exact k
theorem i_tup {l} {K : (AS → Prop) → List AV → Prop} (k : K (fun _ => True) l) : iterW (.tup l) K σ := k
theorem i_range {lo hi} {K : (AS → Prop) → List AV → Prop} (h₁ : lo.natAbs < 2 ^ 60) (h₂ : hi.natAbs < 2 ^ 60) (k : K (fun _ => True) ((rangeL lo hi).map .int)) : iterW (.range lo hi) K σ := ⟨h₁, h₂, k⟩

theorem ifT {A B : Prop} (h : A) : if true = true then A else B := h
theorem ifF {A B : Prop} (h : B) : if false = true then A else B := h
theorem ifB {b : Bool} {A B : Prop} (t : b = true → A) (f : b = false → B) : if b = true then A else B := by
  cases b with
  | true => exact t rfl
  | false => exact f rfl
theorem is_rn {K : Bool → Prop} (h : K false) : cmpW .Is (.ref a) .none K σ := h
theorem is_nn {K : Bool → Prop} (h : K true) : cmpW .Is .none .none K σ := h
theorem isnot_rn {K : Bool → Prop} (h : K true) : cmpW .IsNot (.ref a) .none K σ := h
theorem isnot_nn {K : Bool → Prop} (h : K false) : cmpW .IsNot .none .none K σ := h
theorem eq_int {i j : Int} {K : Bool → Prop} (h : K (i == j)) : cmpW .Eq (.int i) (.int j) K σ := h
theorem ne_int {i j : Int} {K : Bool → Prop} (h : K (!(i == j))) : cmpW .NotEq (.int i) (.int j) K σ := h
theorem in_c {u w : AV} {K : Bool → Prop} (h : inW u w K σ) : cmpW .In u w K σ := h
theorem notin_c {u w : AV} {K : Bool → Prop} (h : inW u w (fun b => K (!b)) σ) : cmpW .NotIn u w K σ := h

/-- what a loop's body may end with -/
def LpK (I : AS → Prop) (F : FK) (f : AF) (τ : AS) : Prop := match f with | .next | .cont => I τ | .brk => F .next τ | .ret v => F (.ret v) τ | .exc => False
theorem for_inv {chk : AS → Prop} {body : AV → FK → AS → Prop} (I : List AV → AS → Prop) (hc : ∀ l τ, I l τ → chk τ)
    (hs : ∀ v l τ (K : FK), I (v :: l) τ → (∀ f τ', LpK (I l) F f τ' → K f τ') → body v K τ) (he : ∀ τ, I [] τ → F .next τ) :
    ∀ items σ, I items σ → forLoopW chk body items F σ
  | [], σ, h => ⟨hc _ _ h, he _ h⟩
  | v :: l, σ, h => ⟨hc _ _ h, hs v l σ _ h fun f τ' k => by
      cases f with
      | next => exact for_inv I hc hs he l τ' k
      | cont => exact for_inv I hc hs he l τ' k
      | brk => exact k
      | ret v => exact k
      | exc => exact k⟩
theorem loop_inv {chk : AS → Prop} {step : AV → List AV → LK → AS → Prop} {K : LK} (I : List AV → List AV → AS → Prop) (hc : ∀ l acc τ, I l acc τ → chk τ)
    (hs : ∀ v l acc τ (k : LK), I (v :: l) acc τ → (∀ acc' τ', I l acc' τ' → k acc' τ') → step v acc k τ) (he : ∀ acc τ, I [] acc τ → K acc τ) :
    ∀ items acc σ, I items acc σ → loopW chk step items acc K σ
  | [], _, _, h => ⟨hc _ _ _ h, he _ _ h⟩
  | v :: l, _, _, h => ⟨hc _ _ _ h, hs v l _ _ _ h fun acc' τ' k => loop_inv I hc hs he l acc' τ' k⟩
end Mine

end

section
open PySem PySem.W PyProof.Rows PySem.Calls
set_option Elab.async false
set_option backward.match.sparseCases false
set_option maxRecDepth 100000
namespace Mine
noncomputable def niInit : Fn := ⟨["self", "node"], none, [], [
  .assign (.attr (.var "self") "node") (.var "node"),
  .assign (.attr (.var "self") "npredecessors") (.const (.int 0)),
  .assign (.attr (.var "self") "successors") (.list [])]⟩
noncomputable def tsInit : Fn := ⟨["self", "graph"], none, [("graph", .none)], [
  .assign (.attr (.var "self") "_node2info") .dict0,
  .assign (.attr (.var "self") "_ready_nodes") (.const .none),
  .assign (.attr (.var "self") "_npassedout") (.const (.int 0)),
  .assign (.attr (.var "self") "_nfinished") (.const (.int 0)),
  .ifS (.cmp .IsNot (.var "graph") (.const .none)) [
    .never] []]⟩
noncomputable def getInfo : Fn := ⟨["self", "node"], none, [], [
  .ifS (.cmp .Is (.walrus "result" (.meth (.attr (.var "self") "_node2info") "get" [(.var "node")])) (.const .none)) [
    .assign2 (.sub (.attr (.var "self") "_node2info") (.var "node")) (.name "result") (.ncall 40 [(.var "node")])] [],
  .ret (.var "result")]⟩
noncomputable def addF : Fn := ⟨["self", "node"], (some "predecessors"), [], [
  .ifS (.cmp .IsNot (.attr (.var "self") "_ready_nodes") (.const .none)) [
    .never] [],
  .assign (.name "nodeinfo") (.meth (.var "self") "_get_nodeinfo" [(.var "node")]),
  .augAttr (.var "nodeinfo") "npredecessors" .Add (.pcall .len [(.var "predecessors")]),
  .forS (.name "pred") (.var "predecessors") [
    .assign (.name "pred_info") (.meth (.var "self") "_get_nodeinfo" [(.var "pred")]),
    .expr (.meth (.attr (.var "pred_info") "successors") "append" [(.var "node")])]]⟩
noncomputable def prepF : Fn := ⟨["self"], none, [], [
  .ifS (.cmp .IsNot (.attr (.var "self") "_ready_nodes") (.const .none)) [
    .never] [],
  .assign (.attr (.var "self") "_ready_nodes") (.comp ["i"] (.attr (.var "i") "node") (.name "i") (.meth (.attr (.var "self") "_node2info") "values" []) [(.cmp .Eq (.attr (.var "i") "npredecessors") (.const (.int 0)))] []),
  .assign (.name "cycle") (.meth (.var "self") "_find_cycle" []),
  .ifS (.plain (.var "cycle")) [
    .never] []]⟩
noncomputable def readyF : Fn := ⟨["self"], none, [], [
  .ifS (.cmp .Is (.attr (.var "self") "_ready_nodes") (.const .none)) [
    .never] [],
  .assign (.name "result") (.pcall .tuple [(.attr (.var "self") "_ready_nodes")]),
  .assign (.name "n2i") (.attr (.var "self") "_node2info"),
  .forS (.name "node") (.var "result") [
    .assign (.attr (.sub (.var "n2i") (.var "node")) "npredecessors") (.gl "_NODE_OUT" (.int (-1)))],
  .expr (.meth (.attr (.var "self") "_ready_nodes") "clear" []),
  .augAttr (.var "self") "_npassedout" .Add (.pcall .len [(.var "result")]),
  .ret (.var "result")]⟩
noncomputable def doneF : Fn := ⟨["self"], (some "nodes"), [], [
  .ifS (.cmp .Is (.attr (.var "self") "_ready_nodes") (.const .none)) [
    .never] [],
  .assign (.name "n2i") (.attr (.var "self") "_node2info"),
  .forS (.name "node") (.var "nodes") [
    .ifS (.cmp .Is (.walrus "nodeinfo" (.meth (.var "n2i") "get" [(.var "node")])) (.const .none)) [
      .never] [],
    .assign (.name "stat") (.attr (.var "nodeinfo") "npredecessors"),
    .ifS (.cmp .NotEq (.var "stat") (.gl "_NODE_OUT" (.int (-1)))) [
      .ifS (.cmp .GtE (.var "stat") (.const (.int 0))) [
        .never] [
        .ifS (.cmp .Eq (.var "stat") (.gl "_NODE_DONE" (.int (-2)))) [
          .never] [
          .never]]] [],
    .assign (.attr (.var "nodeinfo") "npredecessors") (.gl "_NODE_DONE" (.int (-2))),
    .forS (.name "successor") (.attr (.var "nodeinfo") "successors") [
      .assign (.name "successor_info") (.sub (.var "n2i") (.var "successor")),
      .augAttr (.var "successor_info") "npredecessors" .Sub (.const (.int 1)),
      .ifS (.cmp .Eq (.attr (.var "successor_info") "npredecessors") (.const (.int 0))) [
        .expr (.meth (.attr (.var "self") "_ready_nodes") "append" [(.var "successor")])] []],
    .augAttr (.var "self") "_nfinished" .Add (.const (.int 1))]]⟩
noncomputable def cycF : Fn := ⟨["self"], none, [], [
  .assign (.name "n2i") (.attr (.var "self") "_node2info"),
  .assign (.name "stack") (.list []),
  .assign (.name "itstack") (.list []),
  .assign (.name "seen") (.pcall .set []),
  .assign (.name "node2stacki") .dict0,
  .forS (.name "node") (.var "n2i") [
    .ifS (.cmp .In (.var "node") (.var "seen")) [
      .cont] [],
    .whileS (.plain (.const (.bool true))) [
      .ifS (.cmp .In (.var "node") (.var "seen")) [
        .ifS (.cmp .In (.var "node") (.var "node2stacki")) [
          .ret (.bin .Add (.slice (.var "stack") (some (.sub (.var "node2stacki") (.var "node"))) none) (.list [(.var "node")]))] []] [
        .expr (.meth (.var "seen") "add" [(.var "node")]),
        .expr (.meth (.var "itstack") "append" [(.attr (.pcall .iter [(.attr (.sub (.var "n2i") (.var "node")) "successors")]) "__next__")]),
        .assign (.sub (.var "node2stacki") (.var "node")) (.pcall .len [(.var "stack")]),
        .expr (.meth (.var "stack") "append" [(.var "node")])],
      .whileS (.plain (.var "stack")) [
        .tryNext "node" "itstack" "node2stacki" "stack"] [
        .brk]] []],
  .ret (.const .none)]⟩

/-- the class part of a table -/
structure Lib (T : Tb) : Prop where
  n_init : T.meth 40 "__init__" = some 36
  n_slots : T.slots 40 = some ["node", "npredecessors", "successors"]
  t_init : T.meth 137 "__init__" = some 73
  t_slots : T.slots 137 = none
  t_attrs : T.attrs 137 = ["_node2info", "_ready_nodes", "_npassedout", "_nfinished"]
  m_get : T.meth 137 "_get_nodeinfo" = some 80
  m_add : T.meth 137 "add" = some 87
  m_prep : T.meth 137 "prepare" = some 92
  m_ready : T.meth 137 "get_ready" = some 99
  m_done : T.meth 137 "done" = some 120
  m_cyc : T.meth 137 "_find_cycle" = some 127
  f_ni : T.fn 36 = some niInit
  f_ts : T.fn 73 = some tsInit
  f_get : T.fn 80 = some getInfo
  f_add : T.fn 87 = some addF
  f_prep : T.fn 92 = some prepF
  f_ready : T.fn 99 = some readyF
  f_done : T.fn 120 = some doneF
  f_cyc : T.fn 127 = some cycF
end Mine

end

section
open PySem PySem.W PyProof.Rows PySem.Calls
set_option Elab.async false
set_option backward.match.sparseCases false
set_option maxRecDepth 100000
set_option genInjectivity false
namespace Mine
variable {T : Tb} {Q : VK} {X : AS → Prop} {σ : AS} {n : Nat}

def retK (loc : String → Option AV) (Q : VK) (X : AS → Prop) : FK := fun fl τ => match fl with | .next => Q .none ⟨loc, τ.heap⟩ | .ret v => Q v ⟨loc, τ.heap⟩ | .exc => X ⟨loc, τ.heap⟩ | _ => False
theorem x_def {f fn bs args} (hf : T.fn f = some fn) (hb : bindArgsA fn args = some bs) (h : execsW T (callW T n) fn.body (retK σ.loc Q X) ⟨fun x => bs.lookup x, σ.heap⟩) : callW T (n + 1) f args Q X σ := ⟨fn, bs, hf, hb, h⟩

theorem new_ni (L : Lib T) {v : AV} (k : ∀ a d b H', σ.heap a = none → σ.heap b = none → a ≠ b → H' a = some (.slots 40 d [some v, some (.int 0), some (.ref b)]) → H' b = some (.list []) → Ext σ.heap H' → Q (.ref a) ⟨σ.loc, H'⟩) :
    newW T 40 [v] (callW T (n + 1)) Q σ := by
  unfold newW
  rw [L.n_slots]
  refine ⟨36, L.n_init, fun a d ha hd hn => x_def L.f_ni rfl ?_⟩
  refine x_asgA (w_var rfl (w_var rfl (s_slot ins_eq L.n_slots rfl ?_)))
  refine x_asgA (w_const (w_var rfl (s_slot ins_eq L.n_slots rfl ?_)))
  refine x_asgA (w_list (ws_nil fun b hb => w_var rfl (s_slot (ins_fresh ins_eq hb) L.n_slots rfl ?_)))
  have hba : a ≠ b := ne_fresh (H := Hp.ins _ a _) ins_eq hb
  have e : Ext σ.heap ((((((σ.heap.ins d .sdict).ins a (.slots 40 d [])).ins a (.slots 40 d [some v])).ins a (.slots 40 d [some v, some (.int 0)])))) := (((Ext.ins' hd).ins ha).ins ha).ins ha
  exact ⟨rfl, k a d b _ ha (e.none hb) hba ins_eq (ins_get hba.symm ins_eq) ((e.ins (e.none hb)).ins ha)⟩

/-- a sorter: its addresses, its names in their order, the steps, the counts -/
structure Sr where
  s : Addr
  d : Addr
  D : Addr
  ep : Nat
  ks : List Int
  r : Int → Addr
  q : Int → Addr
  L : Int → Addr
  cnt : Int → Int
  suc : Int → List Int
  rdy : AV
  np : Int
  nf : Int

/-- the table part -/
structure Sr.Bk (x : Sr) (H : Hp) : Prop where
  dict : H x.D = some (.dict (x.ks.map fun k => (k, .ref (x.r k))) x.ep)
  nd : x.ks.Nodup
  len : x.ks.length < 1000
  rc : ∀ k ∈ x.ks, H (x.r k) = some (.slots 40 (x.q k) [some (.int k), some (.int (x.cnt k)), some (.ref (x.L k))])
  lst : ∀ k ∈ x.ks, H (x.L k) = some (.list ((x.suc k).map .int))
  inj : ∀ k ∈ x.ks, ∀ j ∈ x.ks, x.L k = x.L j → k = j
  sl : ∀ k ∈ x.ks, (x.suc k).length < 1000

def Sr.ns (x : Sr) : List (String × AV) := [("_node2info", .ref x.D), ("_ready_nodes", x.rdy), ("_npassedout", .int x.np), ("_nfinished", .int x.nf)]
structure Sr.Ok (x : Sr) (H : Hp) : Prop extends x.Bk H where
  inst : H x.s = some (.inst 137 x.d)
  nsd : H x.d = some (.ns x.ns)

/-- what is a sorter's own, of what may be written -/
def Sr.own (x : Sr) (a : Addr) : Prop := a = x.d ∨ a = x.D ∨ (∃ k ∈ x.ks, a = x.r k ∨ a = x.L k) ∨ x.rdy = .ref a

theorem Lib.a1 (L : Lib T) : "_node2info" ∈ T.attrs 137 := by rw [L.t_attrs]; exact .head _
theorem Lib.a2 (L : Lib T) : "_ready_nodes" ∈ T.attrs 137 := by rw [L.t_attrs]; exact .tail _ (.head _)
theorem Lib.a3 (L : Lib T) : "_npassedout" ∈ T.attrs 137 := by rw [L.t_attrs]; exact .tail _ (.tail _ (.head _))
theorem Lib.a4 (L : Lib T) : "_nfinished" ∈ T.attrs 137 := by rw [L.t_attrs]; exact .tail _ (.tail _ (.tail _ (.head _)))

theorem ts_init (L : Lib T) {a d : Addr} (hn : a ≠ d) (i₀ : σ.heap a = some (.inst 137 d)) (d₀ : σ.heap d = some (.ns []))
    (k : ∀ D H', σ.heap D = none → H' a = some (.inst 137 d) → H' d = some (.ns [("_node2info", .ref D), ("_ready_nodes", .none), ("_npassedout", .int 0), ("_nfinished", .int 0)]) → H' D = some (.dict [] 0) → (∀ b, b ≠ d → b ≠ D → H' b = σ.heap b) → Q .none ⟨σ.loc, H'⟩) :
    callW T (n + 1) 73 [.ref a] Q X σ := by
  refine x_def (bs := [("self", .ref a), ("graph", .none)]) L.f_ts rfl ?_
  refine x_asgA (w_dict fun D hD => ?_)
  have i₁ := ins_fresh (o := .dict [] 0) i₀ hD
  have hDd : D ≠ d := (ne_fresh d₀ hD).symm
  refine w_var rfl (s_inst i₁ L.a1 (ins_fresh d₀ hD) (of_decide_eq_true rfl) ?_)
  refine x_asgA (w_const (w_var rfl (s_inst (ins_get hn i₁) L.a2 ins_eq (of_decide_eq_true rfl) ?_)))
  refine x_asgA (w_const (w_var rfl (s_inst (ins_get hn (ins_get hn i₁)) L.a3 ins_eq (of_decide_eq_true rfl) ?_)))
  refine x_asgA (w_const (w_var rfl (s_inst (ins_get hn (ins_get hn (ins_get hn i₁))) L.a4 ins_eq (of_decide_eq_true rfl) ?_)))
  refine x_if (c_cmp (w_var rfl (w_const (x_end (x_nil ?_)))))
  exact k D _ hD (ins_get hn (ins_get hn (ins_get hn (ins_get hn i₁)))) ins_eq (ins_get hDd (ins_get hDd (ins_get hDd (ins_get hDd ins_eq))))
    fun b h₁ h₂ => (ins_ne h₁).trans ((ins_ne h₁).trans ((ins_ne h₁).trans ((ins_ne h₁).trans (ins_ne h₂))))

theorem new_ts (L : Lib T) (k : ∀ s d D H', σ.heap s = none → σ.heap d = none → σ.heap D = none → H' s = some (.inst 137 d) → H' d = some (.ns [("_node2info", .ref D), ("_ready_nodes", .none), ("_npassedout", .int 0), ("_nfinished", .int 0)]) → H' D = some (.dict [] 0) → Ext σ.heap H' → Q (.ref s) ⟨σ.loc, H'⟩) :
    newW T 137 [] (callW T (n + 1)) Q σ := by
  unfold newW
  rw [L.t_slots]
  refine ⟨73, L.t_init, fun a d ha hd hn => ts_init L hn ins_eq (ins_get hn.symm ins_eq) fun D H' hD h₁ h₂ h₃ h₄ => ⟨rfl, ?_⟩⟩
  have e : Ext σ.heap ((σ.heap.ins d (.ns [])).ins a (.inst 137 d)) := (Ext.ins' hd).ins ha
  exact k a d D H' ha hd (e.none hD) h₁ h₂ h₃ fun b o hb => (h₄ b (ne_fresh hb hd) (ne_fresh hb (e.none hD))).trans (e b o hb)
end Mine

end

section
open PySem PySem.W PyProof.Rows PySem.Calls
set_option Elab.async false
set_option backward.match.sparseCases false
set_option maxRecDepth 100000
namespace Mine
variable {T : Tb} {Q : VK} {X : AS → Prop} {σ : AS} {n : Nat} {x : Sr} {H H' : Hp} {k j : Int}

theorem look_mem {α : Type} {f : Int → α} : ∀ {l : List Int}, k ∈ l → (l.map fun k => (k, f k)).lookup k = some (f k)
  | i :: l, h => by
    rw [List.map_cons, List.lookup_cons]
    by_cases e : k = i
    · rw [e, beq_self_eq_true]
    · rw [beq_eq_false_iff_ne.2 e]; exact look_mem ((List.mem_cons.1 h).resolve_left e)
theorem look_not {α : Type} {f : Int → α} : ∀ {l : List Int}, k ∉ l → (l.map fun k => (k, f k)).lookup k = none
  | [], _ => rfl
  | i :: l, h => by
    have n : k ≠ i := fun e => h (e ▸ .head _)
    rw [List.map_cons, List.lookup_cons, beq_eq_false_iff_ne.2 n]; exact look_not fun m => h (.tail _ m)

theorem Sr.Bk.ext (h : x.Bk H) (e : Ext H H') : x.Bk H' := ⟨e _ _ h.dict, h.nd, h.len, fun k m => e _ _ (h.rc k m), fun k m => e _ _ (h.lst k m), h.inj, h.sl⟩
theorem Sr.Ok.ext (h : x.Ok H) (e : Ext H H') : x.Ok H' := ⟨h.toBk.ext e, e _ _ h.inst, e _ _ h.nsd⟩
theorem Sr.Bk.rne (h : x.Bk H) (hk : k ∈ x.ks) (hj : j ∈ x.ks) (n : j ≠ k) : x.r j ≠ x.r k := ne_of (h.rc j hj) (h.rc k hk) fun e => by injection e with _ _ e; injection e with e; injection e with e; injection e with e; exact n e
theorem Sr.Bk.lne (h : x.Bk H) (hk : k ∈ x.ks) (hj : j ∈ x.ks) : x.L j ≠ x.r k := ne_of (h.lst j hj) (h.rc k hk) nofun
theorem Sr.Bk.cntW (h : x.Bk H) (hk : k ∈ x.ks) {c : Int} : ({ x with cnt := up x.cnt k c } : Sr).Bk (H.ins (x.r k) (.slots 40 (x.q k) [some (.int k), some (.int c), some (.ref (x.L k))])) where
  dict := ins_get (ne_of h.dict (h.rc k hk) nofun) h.dict
  nd := h.nd
  len := h.len
  rc j hj := by
    by_cases e : j = k
    · subst e; dsimp only; rw [up_eq]; exact ins_eq
    · dsimp only; rw [up_ne e]; exact ins_get (h.rne hk hj e) (h.rc j hj)
  lst j hj := ins_get (h.lne hk hj) (h.lst j hj)
  inj := h.inj
  sl := h.sl
theorem Sr.Bk.sucW (h : x.Bk H) (hk : k ∈ x.ks) {l : List Int} (hl : l.length < 1000) : ({ x with suc := up x.suc k l } : Sr).Bk (H.ins (x.L k) (.list (l.map .int))) where
  dict := ins_get (ne_of h.dict (h.lst k hk) nofun) h.dict
  nd := h.nd
  len := h.len
  rc j hj := ins_get (h.lne hj hk).symm (h.rc j hj)
  lst j hj := by
    by_cases e : j = k
    · subst e; dsimp only; rw [up_eq]; exact ins_eq
    · dsimp only; rw [up_ne e]; exact ins_get (fun a => e (h.inj j hj k hk a)) (h.lst j hj)
  inj := h.inj
  sl j hj := by
    by_cases e : j = k
    · subst e; dsimp only; rw [up_eq]; exact hl
    · dsimp only; rw [up_ne e]; exact h.sl j hj
theorem Sr.Ok.cntW (h : x.Ok H) (hk : k ∈ x.ks) {c : Int} : ({ x with cnt := up x.cnt k c } : Sr).Ok (H.ins (x.r k) (.slots 40 (x.q k) [some (.int k), some (.int c), some (.ref (x.L k))])) :=
  ⟨h.toBk.cntW hk, ins_get (ne_of h.inst (h.rc k hk) nofun) h.inst, ins_get (ne_of h.nsd (h.rc k hk) nofun) h.nsd⟩
theorem Sr.Ok.sucW (h : x.Ok H) (hk : k ∈ x.ks) {l : List Int} (hl : l.length < 1000) : ({ x with suc := up x.suc k l } : Sr).Ok (H.ins (x.L k) (.list (l.map .int))) :=
  ⟨h.toBk.sucW hk hl, ins_get (ne_of h.inst (h.lst k hk) nofun) h.inst, ins_get (ne_of h.nsd (h.lst k hk) nofun) h.nsd⟩
/-- a new name -/
def Sr.put (x : Sr) (k : Int) (a q b : Addr) (ep : Nat) : Sr := { x with ks := x.ks ++ [k], r := up x.r k a, q := up x.q k q, L := up x.L k b, cnt := up x.cnt k 0, suc := up x.suc k [], ep := ep }
theorem map_up {α β : Type} {f : Int → α} {g : Int → α → β} {l : List Int} (h : k ∉ l) {a : α} : (l ++ [k]).map (fun j => g j (up f k a j)) = l.map (fun j => g j (f j)) ++ [g k a] := by
  rw [List.map_append, List.map_singleton, up_eq]
  congr 1
  exact List.map_congr_left fun j hj => by
    have n : j ≠ k := fun e => h (e ▸ hj)
    rw [up_ne n]
theorem Sr.Bk.put (h : x.Bk H) (hk : k ∉ x.ks) (hl : x.ks.length < 900) {a q b : Addr} {ep : Nat} (hb : H b = none)
    (ha' : H' a = some (.slots 40 q [some (.int k), some (.int 0), some (.ref b)])) (hb' : H' b = some (.list [])) (e : Ext H H') :
    (x.put k a q b ep).Bk (H'.ins x.D (.dict ((x.ks.map fun k => (k, .ref (x.r k))) ++ [(k, .ref a)]) ep)) := by
  have hD := e _ _ h.dict
  have old : ∀ j ∈ x.ks, j ≠ k := fun j hj e => hk (e ▸ hj)
  have m : ∀ j ∈ (x.put k a q b ep).ks, j = k ∨ j ∈ x.ks := fun j hj => by
    rcases List.mem_append.1 hj with hj | hj
    · exact .inr hj
    · exact .inl (List.mem_singleton.1 hj)
  refine ⟨?_, ?_, ?_, fun j hj => ?_, fun j hj => ?_, fun i hi j hj => ?_, fun j hj => ?_⟩
  · rw [← map_up (f := x.r) (g := fun k a => (k, AV.ref a)) hk]; exact ins_eq
  · exact List.nodup_append.2 ⟨h.nd, List.pairwise_singleton _ _, fun i hi j hj e => hk (List.mem_singleton.1 hj ▸ e ▸ hi)⟩
  · show (x.ks ++ [k]).length < 1000; rw [List.length_append, List.length_singleton]; omega
  · rcases m j hj with rfl | hj
    · dsimp only [Sr.put]; rw [up_eq, up_eq, up_eq, up_eq]; exact ins_get (ne_of ha' hD nofun) ha'
    · have o := old j hj
      dsimp only [Sr.put]; rw [up_ne o, up_ne o, up_ne o, up_ne o]
      have := e _ _ (h.rc j hj)
      exact ins_get (ne_of this hD nofun) this
  · rcases m j hj with rfl | hj
    · dsimp only [Sr.put]; rw [up_eq, up_eq]; exact ins_get (ne_of hb' hD nofun) hb'
    · have o := old j hj
      dsimp only [Sr.put]; rw [up_ne o, up_ne o]
      have := e _ _ (h.lst j hj)
      exact ins_get (ne_of this hD nofun) this
  · dsimp only [Sr.put]
    rcases m i hi with e₁ | hi <;> rcases m j hj with e₂ | hj
    · exact fun _ => e₁.trans e₂.symm
    · rw [e₁, up_eq, up_ne (old j hj)]; exact fun e => absurd e.symm (ne_fresh (h.lst j hj) hb)
    · rw [e₂, up_eq, up_ne (old i hi)]; exact fun e => absurd e (ne_fresh (h.lst i hi) hb)
    · rw [up_ne (old i hi), up_ne (old j hj)]; exact h.inj i hi j hj
  · dsimp only [Sr.put]
    rcases m j hj with rfl | hj
    · rw [up_eq]; exact Nat.zero_lt_succ _
    · rw [up_ne (old j hj)]; exact h.sl j hj
end Mine

end

section
open PySem PySem.W PyProof.Rows PySem.Calls
set_option Elab.async false
set_option backward.match.sparseCases false
set_option maxRecDepth 100000
namespace Mine
variable {T : Tb} {Q : VK} {X : AS → Prop} {σ : AS} {n : Nat} {x : Sr} {H H' : Hp} {k j p : Int}

theorem look_get (hk : k ∈ x.ks) : ((x.ks.map fun k => (k, AV.ref (x.r k))).lookup k).getD .none = .ref (x.r k) := by rw [look_mem hk]; rfl

theorem info_old (L : Lib T) (hx : x.Ok σ.heap) (hk : k ∈ x.ks) (q : Q (.ref (x.r k)) σ) : callW T (n + 1) 80 [.ref x.s, .int k] Q X σ := by
  refine x_def (bs := [("self", .ref x.s), ("node", .int k)]) L.f_get rfl ?_
  refine x_if (c_cmp (w_wal (w_m1 (w_attr (w_var rfl (g_inst hx.inst L.a1 hx.nsd rfl trivial (cal_dict hx.dict (.head _) (w_var rfl ⟨_, _, hx.dict, b_get ?_⟩))))))))
  rw [look_get hk]
  exact w_const (is_rn (ifF (x_end (x_ret (w_var rfl q)))))

theorem info_new (L : Lib T) (hx : x.Ok σ.heap) (hk : k ∉ x.ks) (hl : x.ks.length < 900)
    (q : ∀ a q b ep H', (x.put k a q b ep).Ok H' → σ.heap a = none → σ.heap b = none → Fr (· = x.D) σ.heap H' → Q (.ref a) ⟨σ.loc, H'⟩) : callW T (n + 2) 80 [.ref x.s, .int k] Q X σ := by
  refine x_def (bs := [("self", .ref x.s), ("node", .int k)]) L.f_get rfl ?_
  refine x_if (c_cmp (w_wal (w_m1 (w_attr (w_var rfl (g_inst hx.inst L.a1 hx.nsd rfl trivial (cal_dict hx.dict (.head _) (w_var rfl ⟨_, _, hx.dict, b_get ?_⟩))))))))
  rw [look_not hk]
  refine w_const (is_nn (ifT (x_asg2 (w_n1 (w_var rfl (new_ni L fun a d b H' ha hb hn ha' hb' e => ?_))))))
  have hx' := hx.ext e
  refine w_attr (w_var rfl (g_inst hx'.inst L.a1 hx'.nsd rfl trivial (w_var rfl (set_dict hx'.dict ?_ (look_not hk) fun ep => x_end (x_ret (w_var rfl (q a d b ep _ ?_ ha hb ?_)))))))
  · rw [List.length_map]; have := hx.len; omega
  · exact ⟨hx.toBk.put hk hl hb ha' hb' e, ins_get (ne_of hx'.inst hx'.dict nofun) hx'.inst, ins_get (ne_of hx'.nsd hx'.dict nofun) hx'.nsd⟩
  · exact fun c o hc hd => ins_get hd (e c o hc)

theorem put_cnt {a q b : Addr} {ep : Nat} : up (x.put k a q b ep).cnt k 0 = (x.put k a q b ep).cnt := by
  funext j; dsimp only [Sr.put, up]; split <;> rfl

theorem add_new (L : Lib T) (hx : x.Ok σ.heap) (hr : x.rdy = .none) (hk : k ∉ x.ks) (hl : x.ks.length < 900)
    (q : ∀ a q b ep H', (x.put k a q b ep).Ok H' → σ.heap a = none → σ.heap b = none → Fr (· = x.D) σ.heap H' → Q .none ⟨σ.loc, H'⟩) : callW T (n + 3) 87 [.ref x.s, .int k] Q X σ := by
  refine x_def (bs := [("self", .ref x.s), ("node", .int k), ("predecessors", .tup [])]) L.f_add rfl ?_
  refine x_if (c_cmp (w_attr (w_var rfl (g_inst hx.inst L.a2 hx.nsd rfl (by rw [hr]; trivial) (w_const ?_)))))
  rw [hr]
  refine isnot_nn (ifF (x_end (x_asg (w_m1 (w_var rfl (cal_inst hx.inst hx.nsd rfl L.m_get (w_var rfl (info_new L hx hk hl fun a d b ep H' ho ha hb hf => ?_))))))))
  have hm : k ∈ (x.put k a d b ep).ks := List.mem_append.2 (.inr (.head _))
  have hrk := ho.rc k hm
  have er : (x.put k a d b ep).r k = a := up_eq
  have hc : (x.put k a d b ep).cnt k = 0 := up_eq
  rw [er, hc] at hrk
  refine x_augA (w_var rfl (g_slot hrk L.n_slots rfl rfl trivial (w_p1 (w_var rfl ⟨of_decide_eq_true rfl, ⟨_, rfl⟩, s_slot hrk L.n_slots rfl ?_⟩))))
  refine x_for (w_var rfl (i_tup ⟨trivial, ?_⟩))
  have := ho.cntW hm (c := 0)
  rw [put_cnt, er] at this
  refine q a d b ep _ this ha hb fun c o h₁ h₂ => ins_get (ne_fresh h₁ ha) (hf c o h₁ h₂)

theorem add_old (L : Lib T) (hx : x.Ok σ.heap) (hr : x.rdy = .none) (hk : k ∈ x.ks) (hp : p ∈ x.ks) (hl : (x.suc p).length < 900)
    (q : ∀ H', ({ x with cnt := up x.cnt k (x.cnt k + 1), suc := up x.suc p (x.suc p ++ [k]) } : Sr).Ok H' → Fr x.own σ.heap H' → Q .none ⟨σ.loc, H'⟩) : callW T (n + 3) 87 [.ref x.s, .int k, .int p] Q X σ := by
  refine x_def (bs := [("self", .ref x.s), ("node", .int k), ("predecessors", .tup [.int p])]) L.f_add rfl ?_
  refine x_if (c_cmp (w_attr (w_var rfl (g_inst hx.inst L.a2 hx.nsd rfl (by rw [hr]; trivial) (w_const ?_)))))
  rw [hr]
  refine isnot_nn (ifF (x_end (x_asg (w_m1 (w_var rfl (cal_inst hx.inst hx.nsd rfl L.m_get (w_var rfl (info_old L hx hk ?_))))))))
  have hrk := hx.rc k hk
  refine x_augA (w_var rfl (g_slot hrk L.n_slots rfl rfl trivial (w_p1 (w_var rfl ⟨of_decide_eq_true rfl, ⟨_, rfl⟩, s_slot hrk L.n_slots rfl ?_⟩))))
  have ho := hx.cntW hk (c := x.cnt k + 1)
  refine x_for (w_var rfl (i_tup ⟨trivial, ?_⟩))
  refine x_asg (w_m1 (w_var rfl (cal_inst ho.inst ho.nsd rfl L.m_get (w_var rfl (info_old (x := { x with cnt := up x.cnt k (x.cnt k + 1) }) L ho hp ?_)))))
  refine x_expr (w_m1 (w_attr (w_var rfl (g_slot (ho.rc p hp) L.n_slots rfl rfl trivial (cal_list (ho.lst p hp) (.head _) (w_var rfl ⟨_, ho.lst p hp, b_append ?_ ?_⟩))))))
  · rw [List.length_map]; exact Nat.lt_trans hl (by decide)
  · have := ho.sucW hp (l := x.suc p ++ [k]) (by rw [List.length_append, List.length_singleton]; omega)
    rw [List.map_append] at this
    refine ⟨trivial, q _ this fun c o h₁ h₂ => ins_get (fun e => h₂ (.inr (.inr (.inl ⟨p, hp, .inr e⟩)))) (ins_get (fun e => h₂ (.inr (.inr (.inl ⟨k, hk, .inl e⟩)))) h₁)⟩
end Mine

end

section
open PySem PySem.W PyProof.Rows PySem.Calls
set_option Elab.async false
set_option backward.match.sparseCases false
set_option maxRecDepth 100000
namespace Mine
variable {T : Tb} {Q : VK} {X : AS → Prop} {F : FK} {σ : AS} {n : Nat} {x : Sr} {H H' : Hp} {k j p : Int}

theorem for_map {α : Type} {g : α → AV} {chk : AS → Prop} {body : AV → FK → AS → Prop} {ns : List α} (I : List α → AS → Prop) (h0 : I [] σ) (hc : ∀ l τ, I l τ → chk τ)
    (hs : ∀ pre v post τ (K : FK), ns = pre ++ v :: post → I pre τ → (∀ f τ', LpK (I (pre ++ [v])) F f τ' → K f τ') → body (g v) K τ) (he : ∀ τ, I ns τ → F .next τ) :
    forLoopW chk body (ns.map g) F σ := by
  refine for_inv (fun l τ => ∃ pre post, ns = pre ++ post ∧ l = post.map g ∧ I pre τ) (by rintro l τ ⟨_, _, _, _, h⟩; exact hc _ _ h) (fun v l τ K ⟨pre, post, e, el, h⟩ hK => ?_) (fun τ ⟨pre, post, e, el, h⟩ => ?_) _ _ ⟨[], ns, rfl, rfl, h0⟩
  · cases post with
    | nil => cases el
    | cons w post =>
      injection el with e₁ e₂
      subst e₁
      refine hs pre w post τ K e h fun f τ' k => hK f τ' ?_
      cases f with
      | next => exact ⟨pre ++ [w], post, e.trans (List.append_cons ..), e₂, k⟩
      | cont => exact ⟨pre ++ [w], post, e.trans (List.append_cons ..), e₂, k⟩
      | _ => exact k
  · have : post = [] := List.map_eq_nil_iff.1 el.symm
    subst this
    rw [List.append_nil] at e
    exact he τ (e ▸ h)
theorem loop_map {α : Type} {g : α → AV} {chk : AS → Prop} {step : AV → List AV → LK → AS → Prop} {K : LK} {ns : List α} (I : List α → List AV → AS → Prop) (hc : ∀ l acc τ, I l acc τ → chk τ)
    (hs : ∀ pre v post acc τ (k : LK), ns = pre ++ v :: post → I pre acc τ → (∀ acc' τ', I (pre ++ [v]) acc' τ' → k acc' τ') → step (g v) acc k τ) (he : ∀ acc τ, I ns acc τ → K acc τ) {acc₀ : List AV} (h0 : I [] acc₀ σ) :
    loopW chk step (ns.map g) acc₀ K σ := by
  refine loop_inv (fun l acc τ => ∃ pre post, ns = pre ++ post ∧ l = post.map g ∧ I pre acc τ) (by rintro l acc τ ⟨_, _, _, _, h⟩; exact hc _ _ _ h) (fun v l acc τ k ⟨pre, post, e, el, h⟩ hK => ?_) (fun acc τ ⟨pre, post, e, el, h⟩ => ?_) _ _ _ ⟨[], ns, rfl, rfl, h0⟩
  · cases post with
    | nil => cases el
    | cons w post =>
      injection el with e₁ e₂
      subst e₁
      exact hs pre w post acc τ k e h fun acc' τ' k => hK acc' τ' ⟨pre ++ [w], post, e.trans (List.append_cons ..), e₂, k⟩
  · have : post = [] := List.map_eq_nil_iff.1 el.symm
    subst this
    rw [List.append_nil] at e
    exact he acc τ (e ▸ h)

theorem Sr.Ok.nsW (h : x.Ok H) {rdy : AV} {np nf : Int} : ({ x with rdy := rdy, np := np, nf := nf } : Sr).Ok (H.ins x.d (.ns ({ x with rdy := rdy, np := np, nf := nf } : Sr).ns)) :=
  have hd : ∀ {b o}, H b = some o → AO.ns x.ns ≠ o → H.ins x.d (.ns ({ x with rdy := rdy, np := np, nf := nf } : Sr).ns) b = some o := fun e n => ins_get (ne_of h.nsd e n).symm e
  ⟨⟨hd h.dict nofun, h.nd, h.len, fun k m => hd (h.rc k m) nofun, fun k m => hd (h.lst k m) nofun, h.inj, h.sl⟩, hd h.inst nofun, ins_eq⟩
theorem Sr.Ok.insL (h : x.Ok H) {R : Addr} {l l' : List AV} (hR : H R = some (.list l)) (hn : ∀ k ∈ x.ks, x.L k ≠ R) : x.Ok (H.ins R (.list l')) :=
  ⟨⟨ins_get (ne_of h.dict hR nofun) h.dict, h.nd, h.len, fun k m => ins_get (ne_of (h.rc k m) hR nofun) (h.rc k m), fun k m => ins_get (hn k m) (h.lst k m), h.inj, h.sl⟩, ins_get (ne_of h.inst hR nofun) h.inst, ins_get (ne_of h.nsd hR nofun) h.nsd⟩

/-- a sum over those that are not in a list -/
def wsum (ks : List Int) (w : Int → Nat) (S : List Int) : Nat := (ks.map fun p => if p ∈ S then 0 else w p).sum
theorem wsum_out {ks : List Int} {w : Int → Nat} {S : List Int} {c : Int} (h : c ∉ ks) : wsum ks w (c :: S) = wsum ks w S := by
  unfold wsum
  congr 1
  refine List.map_congr_left fun p hp => ?_
  have : p ≠ c := fun e => h (e ▸ hp)
  simp only [List.mem_cons, or_iff_right this]
theorem wsum_cons {w : Int → Nat} {S : List Int} {c : Int} (hS : c ∉ S) : ∀ {ks : List Int}, ks.Nodup → c ∈ ks → wsum ks w S = wsum ks w (c :: S) + w c
  | i :: ks, nd, hc => by
    have ⟨ni, nd⟩ := List.nodup_cons.1 nd
    show (if i ∈ S then 0 else w i) + wsum ks w S = (if i ∈ c :: S then 0 else w i) + wsum ks w (c :: S) + w c
    by_cases e : c = i
    · subst e
      rw [if_neg hS, if_pos (List.mem_cons_self ..), wsum_out ni]; omega
    · have hm : i ∈ c :: S ↔ i ∈ S := by rw [List.mem_cons, or_iff_right (Ne.symm e)]
      rw [wsum_cons hS nd ((List.mem_cons.1 hc).resolve_left e)]
      simp only [hm]; omega
theorem wsum_mem {ks : List Int} {w : Int → Nat} {S S' : List Int} (h : ∀ p, p ∈ S ↔ p ∈ S') : wsum ks w S = wsum ks w S' := by
  unfold wsum; simp only [h]

/-- how many steps lead to a name from those that are not done -/
def deg (x : Sr) (Dn : List Int) (j : Int) : Nat := wsum x.ks (fun p => (x.suc p).count j) Dn
end Mine

end

section
open PySem PySem.W PyProof.Rows PySem.Calls
set_option Elab.async false
set_option backward.match.sparseCases false
set_option maxRecDepth 100000
set_option genInjectivity false
namespace Mine

/-- a walk along steps -/
def Pth (E : Int → Int → Prop) : Int → List Int → Prop
  | _, [] => True
  | a, b :: l => E a b ∧ Pth E b l
theorem Pth.snoc {E : Int → Int → Prop} {u w : Int} (h : E u w) : ∀ {a : Int} {l : List Int}, Pth E a (l ++ [u]) → Pth E a (l ++ [u] ++ [w])
  | _, [], k => ⟨k.1, h, trivial⟩
  | _, _ :: _, k => ⟨k.1, Pth.snoc h k.2⟩

/-- finished names, the latest ahead: what they lead to was finished before -/
def FinOk (suc : Int → List Int) : List Int → Prop
  | [] => True
  | k :: r => (∀ j ∈ suc k, j ∈ r) ∧ FinOk suc r

/-- an entry of the stack: a name, its iterator's place, the bound method, the iterator -/
structure En where
  k : Int
  p : Nat
  nx : Addr
  it : Addr

def stI : List En → List Int
  | [] => []
  | e :: r => stI r ++ [e.k]
def ilI : List En → List AV
  | [] => []
  | e :: r => ilI r ++ [.ref e.nx]
def dlI : List En → List (Int × AV)
  | [] => []
  | e :: r => dlI r ++ [(e.k, .int (r.length : Nat))]
theorem stI_len : ∀ (rs : List En), (stI rs).length = rs.length
  | [] => rfl
  | e :: r => by rw [stI, List.length_append, stI_len r]; rfl
theorem ilI_len : ∀ (rs : List En), (ilI rs).length = rs.length
  | [] => rfl
  | e :: r => by rw [ilI, List.length_append, ilI_len r]; rfl
theorem dlI_len : ∀ (rs : List En), (dlI rs).length = rs.length
  | [] => rfl
  | e :: r => by rw [dlI, List.length_append, dlI_len r]; rfl
theorem dlI_keys : ∀ (rs : List En), (dlI rs).map (·.1) = stI rs
  | [] => rfl
  | e :: r => by rw [dlI, List.map_append, dlI_keys r]; rfl
theorem look_none {α : Type} {v : Int} : ∀ {l : List (Int × α)}, v ∉ l.map (·.1) → l.lookup v = none
  | [], _ => rfl
  | (i, a) :: l, h => by
    have n : v ≠ i := fun e => h (e ▸ List.mem_cons_self ..)
    rw [List.lookup_cons, beq_eq_false_iff_ne.2 n]; exact look_none fun m => h (List.mem_cons_of_mem _ m)
theorem look_none' {α : Type} {v : Int} : ∀ {l : List (Int × α)}, l.lookup v = none → v ∉ l.map (·.1)
  | [], _ => by simp
  | (i, a) :: l, h => by
    rw [List.lookup_cons] at h
    by_cases e : v = i
    · subst e; rw [beq_self_eq_true] at h; cases h
    · rw [beq_eq_false_iff_ne.2 e] at h
      rw [List.map_cons, List.mem_cons]
      exact fun m => m.elim e (look_none' h)

/-- the iterators' places fit -/
def Ch (suc : Int → List Int) (fin : List Int) : List Int → List En → Prop
  | _, [] => True
  | c, e :: r => (∀ j ∈ (suc e.k).take e.p, j ∈ fin ∨ j ∈ c) ∧ (∀ j ∈ c, j ∈ suc e.k) ∧ e.p ≤ (suc e.k).length ∧ Ch suc fin [e.k] r
theorem Ch.fin {suc : Int → List Int} {fin fin' : List Int} (h : ∀ j ∈ fin, j ∈ fin') : ∀ {c : List Int} {rs : List En}, Ch suc fin c rs → Ch suc fin' c rs
  | _, [], _ => trivial
  | _, _ :: _, ⟨a, b, d, e⟩ => ⟨fun j hj => (a j hj).imp_left (h j), b, d, Ch.fin h e⟩
/-- a ring on the stack -/
theorem Ch.ring {suc : Int → List Int} {fin : List Int} {v : Int} : ∀ {w : Int} {rs : List En}, Ch suc fin [w] rs → (stI rs).Nodup → v ∈ stI rs →
    ∃ (pos : Nat) (mid : List Int), (dlI rs).lookup v = some (.int pos) ∧ (stI rs).drop pos = v :: mid ∧ Pth (fun i j => j ∈ suc i) v (mid ++ [w])
  | w, e :: r, ⟨_, hc, _, hr⟩, nd, hv => by
    rw [stI] at nd hv ⊢
    have ⟨n₁, _, n₃⟩ := List.nodup_append.1 nd
    have hw := hc w (.head _)
    by_cases q : v ∈ stI r
    · obtain ⟨pos, mid, a, b, c⟩ := Ch.ring hr n₁ q
      refine ⟨pos, mid ++ [e.k], ?_, ?_, c.snoc hw⟩
      · rw [dlI, List.lookup_append, a]; rfl
      · have hl : pos ≤ (stI r).length := by
          rcases Nat.lt_or_ge pos (stI r).length with l | g
          · exact Nat.le_of_lt l
          · rw [List.drop_eq_nil_of_le g] at b; cases b
        rw [List.drop_append_of_le_length hl, b]; rfl
    · have ev : v = e.k := by
        rcases List.mem_append.1 hv with h | h
        · exact absurd h q
        · exact List.mem_singleton.1 h
      subst ev
      refine ⟨r.length, [], ?_, ?_, hw, trivial⟩
      · rw [dlI, List.lookup_append, look_none (by rw [dlI_keys]; exact q), List.lookup_cons, beq_self_eq_true]; rfl
      · rw [← stI_len r, List.drop_append_of_le_length (Nat.le_refl _), List.drop_length]; rfl

def stM (suc : Int → List Int) : List En → Nat
  | [] => 0
  | e :: r => (suc e.k).length + 1 - e.p + stM suc r
def dfsM (x : Sr) (sn : List Int) (rs : List En) : Nat := wsum x.ks (fun k => (x.suc k).length + 2) sn + stM x.suc rs

/-- the state of the search -/
structure Dfs (x : Sr) (H₀ : Hp) (sa ia na da : Addr) (rs : List En) (fin sn : List Int) (τ : AS) : Prop where
  l2 : τ.loc "n2i" = some (.ref x.D)
  ls : τ.loc "stack" = some (.ref sa)
  li : τ.loc "itstack" = some (.ref ia)
  ln : τ.loc "seen" = some (.ref na)
  ld : τ.loc "node2stacki" = some (.ref da)
  hs : τ.heap sa = some (.list ((stI rs).map .int))
  hi : τ.heap ia = some (.list (ilI rs))
  hn : τ.heap na = some (.set sn)
  hd : ∃ ep, τ.heap da = some (.dict (dlI rs) ep)
  si : sa ≠ ia
  nx : ∀ e ∈ rs, τ.heap e.nx = some (.next e.it)
  it : ∀ e ∈ rs, τ.heap e.it = some (.iter (x.L e.k) e.p)
  itn : (rs.map (·.it)).Nodup
  kn : (stI rs).Nodup
  fs : FinOk x.suc fin
  snm : ∀ k, k ∈ sn ↔ k ∈ stI rs ∨ k ∈ fin
  snd : sn.Nodup
  snk : ∀ k ∈ sn, k ∈ x.ks
  dis : ∀ k ∈ stI rs, k ∉ fin
  ext : Ext H₀ τ.heap
  fsa : H₀ sa = none
  fia : H₀ ia = none
  fna : H₀ na = none
  fda : H₀ da = none
  fit : ∀ e ∈ rs, H₀ e.it = none

theorem Dfs.snl {x : Sr} {H₀ : Hp} {sa ia na da : Addr} {rs : List En} {fin sn : List Int} {τ : AS} (h : Dfs x H₀ sa ia na da rs fin sn τ) : sn.length ≤ x.ks.length := h.snd.length_le_of_subset fun _ m => h.snk _ m
theorem Dfs.rsl {x : Sr} {H₀ : Hp} {sa ia na da : Addr} {rs : List En} {fin sn : List Int} {τ : AS} (h : Dfs x H₀ sa ia na da rs fin sn τ) : rs.length ≤ x.ks.length := by
  rw [← stI_len]; exact h.kn.length_le_of_subset fun k m => h.snk _ ((h.snm k).2 (.inl m))
/-- only the name is set -/
theorem Dfs.node {x : Sr} {H₀ : Hp} {sa ia na da : Addr} {rs : List En} {fin sn : List Int} {τ : AS} {v : AV} (h : Dfs x H₀ sa ia na da rs fin sn τ) : Dfs x H₀ sa ia na da rs fin sn (τ.set "node" v) :=
  { h with l2 := h.l2, ls := h.ls, li := h.li, ln := h.ln, ld := h.ld }
end Mine

end

section
open PySem PySem.W PyProof.Rows PySem.Calls
set_option Elab.async false
set_option backward.match.sparseCases false
set_option maxRecDepth 100000
namespace Mine
variable {x : Sr} {H₀ : Hp} {sa ia na da : Addr} {rs r : List En} {e : En} {fin sn : List Int} {τ : AS} {v : Int}

/-- a name is laid on the stack -/
theorem Dfs.push (h : Dfs x H₀ sa ia na da rs fin sn τ) (hv : v ∉ sn) (hk : v ∈ x.ks) {it nx : Addr} {ep : Nat} {H' : Hp}
    (hit : τ.heap it = none)
    (e₁ : H' na = some (.set (v :: sn))) (e₂ : H' it = some (.iter (x.L v) 0)) (e₃ : H' nx = some (.next it)) (e₄ : H' ia = some (.list (ilI rs ++ [.ref nx])))
    (e₅ : H' da = some (.dict (dlI rs ++ [(v, .int (rs.length : Nat))]) ep)) (e₆ : H' sa = some (.list ((stI rs).map .int ++ [.int v])))
    (kp : ∀ b o, τ.heap b = some o → b ≠ na → b ≠ ia → b ≠ da → b ≠ sa → H' b = some o) :
    Dfs x H₀ sa ia na da (⟨v, 0, nx, it⟩ :: rs) fin (v :: sn) ⟨τ.loc, H'⟩ := by
  obtain ⟨ep₀, hd⟩ := h.hd
  have vn : v ∉ stI rs := fun m => hv ((h.snm v).2 (.inl m))
  have vf : v ∉ fin := fun m => hv ((h.snm v).2 (.inr m))
  refine ⟨h.l2, h.ls, h.li, h.ln, h.ld, ?_, e₄, e₁, ⟨ep, e₅⟩, h.si, ?_, ?_, ?_, ?_, h.fs, ?_, ?_, ?_, ?_, ?_, h.fsa, h.fia, h.fna, h.fda, ?_⟩
  · rw [stI, List.map_append]; exact e₆
  · intro e he
    rcases List.mem_cons.1 he with rfl | he
    · exact e₃
    · have a := h.nx e he
      exact kp _ _ a (ne_of a h.hn nofun) (ne_of a h.hi nofun) (ne_of a hd nofun) (ne_of a h.hs nofun)
  · intro e he
    rcases List.mem_cons.1 he with rfl | he
    · exact e₂
    · have a := h.it e he
      exact kp _ _ a (ne_of a h.hn nofun) (ne_of a h.hi nofun) (ne_of a hd nofun) (ne_of a h.hs nofun)
  · rw [List.map_cons]
    refine List.nodup_cons.2 ⟨fun m => ?_, h.itn⟩
    obtain ⟨e, he, q⟩ := List.mem_map.1 m
    exact ne_fresh (h.it e he) hit q
  · rw [stI]
    exact List.nodup_append.2 ⟨h.kn, List.pairwise_singleton _ _, fun a ha b hb q => vn (by rw [List.mem_singleton.1 hb] at q; rw [q] at ha; exact ha)⟩
  · intro k
    rw [stI, List.mem_cons, List.mem_append, h.snm k, List.mem_singleton]
    constructor
    · rintro (a | a | a)
      · exact .inl (.inr a)
      · exact .inl (.inl a)
      · exact .inr a
    · rintro ((a | a) | a)
      · exact .inr (.inl a)
      · exact .inl a
      · exact .inr (.inr a)
  · exact List.nodup_cons.2 ⟨hv, h.snd⟩
  · intro k m
    rcases List.mem_cons.1 m with rfl | m
    · exact hk
    · exact h.snk k m
  · intro k m
    rw [stI] at m
    rcases List.mem_append.1 m with m | m
    · exact h.dis k m
    · rw [List.mem_singleton.1 m]; exact vf
  · intro b o q
    exact kp b o (h.ext b o q) (ne_fresh q h.fna) (ne_fresh q h.fia) (ne_fresh q h.fda) (ne_fresh q h.fsa)
  · intro e he
    rcases List.mem_cons.1 he with rfl | he
    · exact h.ext.none hit
    · exact h.fit e he

/-- the iterator on top gives an item -/
theorem Dfs.step (h : Dfs x H₀ sa ia na da (e :: r) fin sn τ) :
    Dfs x H₀ sa ia na da ({ e with p := e.p + 1 } :: r) fin sn (τ.ins e.it (.iter (x.L e.k) (e.p + 1))) := by
  obtain ⟨ep, hd⟩ := h.hd
  have t := h.it e (.head _)
  have ⟨n₁, n₂⟩ := List.nodup_cons.1 (show (e.it :: r.map (·.it)).Nodup from h.itn)
  refine ⟨h.l2, h.ls, h.li, h.ln, h.ld, ins_get (ne_of h.hs t nofun) h.hs, ins_get (ne_of h.hi t nofun) h.hi, ins_get (ne_of h.hn t nofun) h.hn, ⟨ep, ins_get (ne_of hd t nofun) hd⟩, h.si, ?_, ?_, h.itn, h.kn, h.fs, h.snm, h.snd, h.snk, h.dis, ?_, h.fsa, h.fia, h.fna, h.fda, ?_⟩
  · intro e' he
    rcases List.mem_cons.1 he with rfl | he
    · have a := h.nx e (.head _)
      exact ins_get (ne_of a t nofun) a
    · have a := h.nx e' (.tail _ he)
      exact ins_get (ne_of a t nofun) a
  · intro e' he
    rcases List.mem_cons.1 he with rfl | he
    · exact ins_eq
    · exact ins_get (fun q => n₁ (List.mem_map.2 ⟨e', he, q⟩)) (h.it e' (.tail _ he))
  · exact fun b o q => ins_get (ne_fresh q (h.fit e (.head _))) (h.ext b o q)
  · intro e' he
    rcases List.mem_cons.1 he with rfl | he
    · exact h.fit e (.head _)
    · exact h.fit e' (.tail _ he)

theorem filter_last {l : List (Int × AV)} {k : Int} {w : AV} (h : k ∉ l.map (·.1)) : (l ++ [(k, w)]).filter (fun p => p.1 != k) = l := by
  rw [List.filter_append]
  have a : l.filter (fun p => p.1 != k) = l := List.filter_eq_self.2 fun p hp => by
    have : p.1 ≠ k := fun q => h (List.mem_map.2 ⟨p, hp, q⟩)
    simpa using this
  rw [a]
  simp

/-- the iterator on top is at its end -/
theorem Dfs.pop (h : Dfs x H₀ sa ia na da (e :: r) fin sn τ) (hf : ∀ j ∈ x.suc e.k, j ∈ fin) {ep : Nat} :
    Dfs x H₀ sa ia na da r (e.k :: fin) sn ((((τ.ins e.it .dead).ins sa (.list ((stI r).map .int))).ins da (.dict (dlI r) ep)).ins ia (.list (ilI r))) := by
  obtain ⟨ep₀, hd⟩ := h.hd
  have t := h.it e (.head _)
  have ⟨n₁, n₂⟩ := List.nodup_cons.1 (show (e.it :: r.map (·.it)).Nodup from h.itn)
  have ⟨k₁, _, k₃⟩ := List.nodup_append.1 (show (stI r ++ [e.k]).Nodup from h.kn)
  have sd : sa ≠ da := ne_of h.hs hd nofun
  have di : da ≠ ia := ne_of hd h.hi nofun
  have kp : ∀ b o, τ.heap b = some o → b ≠ e.it → b ≠ sa → b ≠ da → b ≠ ia → ((((τ.ins e.it .dead).ins sa (.list ((stI r).map .int))).ins da (.dict (dlI r) ep)).ins ia (.list (ilI r))).heap b = some o :=
    fun b o q a₁ a₂ a₃ a₄ => ins_get a₄ (ins_get a₃ (ins_get a₂ (ins_get a₁ q)))
  refine ⟨h.l2, h.ls, h.li, h.ln, h.ld, ins_get h.si (ins_get sd ins_eq), ins_eq, ?_, ⟨ep, ins_get di ins_eq⟩, h.si, ?_, ?_, n₂, k₁, ⟨hf, h.fs⟩, ?_, h.snd, h.snk, ?_, ?_, h.fsa, h.fia, h.fna, h.fda, ?_⟩
  · exact kp _ _ h.hn (ne_of h.hn t nofun) (ne_of h.hn h.hs nofun) (ne_of h.hn hd nofun) (ne_of h.hn h.hi nofun)
  · intro e' he
    have a := h.nx e' (.tail _ he)
    exact kp _ _ a (ne_of a t nofun) (ne_of a h.hs nofun) (ne_of a hd nofun) (ne_of a h.hi nofun)
  · intro e' he
    have a := h.it e' (.tail _ he)
    exact kp _ _ a (fun q => n₁ (List.mem_map.2 ⟨e', he, q⟩)) (ne_of a h.hs nofun) (ne_of a hd nofun) (ne_of a h.hi nofun)
  · intro k
    rw [h.snm k, stI, List.mem_append, List.mem_singleton, or_assoc, List.mem_cons]
  · intro k m q
    rcases List.mem_cons.1 q with q | q
    · exact k₃ k m e.k (.head _) q
    · exact h.dis k (List.mem_append.2 (.inl m)) q
  · exact fun b o q => kp b o (h.ext b o q) (ne_fresh q (h.fit e (.head _))) (ne_fresh q h.fsa) (ne_fresh q h.fda) (ne_fresh q h.fia)
  · exact fun e' he => h.fit e' (.tail _ he)
end Mine

end

section
open PySem PySem.W PyProof.Rows PySem.Calls
set_option Elab.async false
set_option backward.match.sparseCases false
set_option maxRecDepth 100000
namespace Mine
variable {T : Tb} {Q : VK} {X : AS → Prop} {F : FK} {σ : AS} {n : Nat} {ct : CT} {x : Sr} {H₀ : Hp} {sa ia na da : Addr} {rs : List En} {fin sn : List Int} {τ : AS}

theorem t_bool {b : Bool} {K : Bool → Prop} (h : K b) : truthW (.bool b) K σ := h
theorem t_none {K : Bool → Prop} (h : K false) : truthW .none K σ := h
theorem t_list {a : Addr} {l : List AV} {K : Bool → Prop} (h : σ.heap a = some (.list l)) (hl : l.length < 1000000) (k : K (!l.isEmpty)) : truthW (.ref a) K σ := ⟨l, h, hl, k⟩
theorem p_lenL {a : Addr} {l : List AV} (h : σ.heap a = some (.list l)) (hl : l.length < 1000000) (q : Q (.int (l.length : Nat)) σ) : primW .len [.ref a] Q σ := by
  delta primW tupOr ref1; dsimp only; rw [h]; exact ⟨hl, q⟩
theorem p_lenT {l : List AV} (hl : l.length < 1000000) (q : Q (.int (l.length : Nat)) σ) : primW .len [.tup l] Q σ := ⟨hl, q⟩
theorem p_lenS {a : Addr} {l : List Int} (h : σ.heap a = some (.script l)) (hl : l.length < 1000000) (q : Q (.int (l.length : Nat)) σ) : primW .len [.ref a] Q σ := by
  delta primW tupOr ref1; dsimp only; rw [h]; exact ⟨hl, q⟩
theorem cut_from {l : List AV} {pos : Nat} (h : pos ≤ l.length) : cutL l (some (pos : Int)) none = l.drop pos := by
  unfold cutL
  have a : (max 0 (min (if (pos : Int) < 0 then (pos : Int) + l.length else pos) (l.length : Int))) = (pos : Int) := by
    rw [if_neg (by omega)]; omega
  simp only [a]
  rw [List.take_of_length_le]
  · simp
  · simp only [Int.toNat_natCast, List.length_drop]; omega

theorem inner_loop (hx : x.Bk H₀) (cl : ∀ k ∈ x.ks, ∀ j ∈ x.suc k, j ∈ x.ks) (h : Dfs x H₀ sa ia na da rs fin sn τ) (hc : Ch x.suc fin [] rs) {n₀ : Nat} (hm : dfsM x sn rs ≤ n₀)
    (hb : ∀ τ' v rs fin, Dfs x H₀ sa ia na da rs fin sn τ' → τ'.loc "node" = some (.int v) → v ∈ x.ks → Ch x.suc fin [v] rs → rs ≠ [] → dfsM x sn rs < n₀ → F .next τ')
    (he : ∀ τ' fin, Dfs x H₀ sa ia na da [] fin sn τ' → F .brk τ') :
    execsW T ct [.whileS (.plain (.var "stack")) [.tryNext "node" "itstack" "node2stacki" "stack"] [.brk]] F τ := by
  refine x_while (fun m τ => ∃ rs fin, Dfs x H₀ sa ia na da rs fin sn τ ∧ Ch x.suc fin [] rs ∧ dfsM x sn rs = m ∧ m ≤ n₀) _ ⟨rs, fin, h, hc, rfl, hm⟩ ?_
  rintro m τ ⟨rs, fin, h, hc, rfl, hm⟩
  have hrl := h.rsl
  have hkl := hx.len
  have hsl : ((stI rs).map AV.int).length < 1000000 := by rw [List.length_map, stI_len]; omega
  refine c_plain (w_var h.ls ⟨_, h.hs, hsl, ?_⟩)
  cases rs with
  | nil => exact ifF (x_brk (he _ fin h))
  | cons e r =>
    have : (!((stI (e :: r)).map AV.int).isEmpty) = true := by
      rw [stI, List.map_append]; simp
    rw [this]
    refine ifT (x_next ?_)
    have hek : e.k ∈ x.ks := h.snk _ ((h.snm _).2 (.inl (List.mem_append.2 (.inr (.head _)))))
    have hsuc := hx.sl _ hek
    obtain ⟨c₁, c₂, c₃, c₄⟩ := hc
    refine ⟨ia, ilI r, e.nx, e.it, x.L e.k, e.p, (x.suc e.k).map .int, h.li, h.hi, ?_, h.nx e (.head _), h.it e (.head _), h.ext _ _ (hx.lst _ hek), ?_, ?_⟩
    · rw [ilI_len]; have : (e :: r).length = r.length + 1 := rfl; omega
    · rw [List.length_map]; omega
    · cases q : (x.suc e.k)[e.p]? with
      | some v =>
        have hp : e.p < (x.suc e.k).length := (List.getElem?_eq_some_iff.1 q).1
        refine .inl ⟨.int v, by rw [List.getElem?_map, q]; rfl, ?_⟩
        have hvs : v ∈ x.suc e.k := List.mem_of_getElem? q
        refine hb _ v _ fin h.step.node rfl (cl _ hek _ hvs) ⟨?_, ?_, hp, c₄⟩ nofun ?_
        · intro j hj
          have hj : j ∈ (x.suc e.k).take (e.p + 1) := hj
          rw [List.take_add_one, q] at hj
          rcases List.mem_append.1 hj with hj | hj
          · rcases c₁ j hj with a | a
            · exact .inl a
            · cases a
          · exact .inr hj
        · intro j hj
          rw [List.mem_singleton.1 hj]; exact hvs
        · show dfsM x sn ({ e with p := e.p + 1 } :: r) < n₀
          have : dfsM x sn ({ e with p := e.p + 1 } :: r) + 1 = dfsM x sn (e :: r) := by
            unfold dfsM; rw [stM, stM]; dsimp only; omega
          omega
      | none =>
        have hp : (x.suc e.k).length ≤ e.p := List.getElem?_eq_none_iff.1 q
        obtain ⟨ep, hd⟩ := h.hd
        refine .inr ⟨by rw [List.getElem?_map, q]; rfl, da, _, ep, sa, (stI r).map .int, e.k, h.ld, hd, h.ls, by rw [h.hs, stI, List.map_append]; rfl, ?_, ?_, ?_, ne_of hd h.hs nofun, h.si, ne_of hd h.hi nofun, fun ep' => ?_⟩
        · rw [List.length_map, stI_len]; have : (e :: r).length = r.length + 1 := rfl; omega
        · rw [dlI_len]; omega
        · cases z : (dlI (e :: r)).lookup e.k with
          | some _ => rfl
          | none => exact absurd (by rw [dlI_keys]; exact List.mem_append.2 (.inr (.head _))) (look_none' z)
        · have nk : e.k ∉ (dlI r).map (·.1) := by
            rw [dlI_keys]
            exact fun m => (List.nodup_append.1 (show (stI r ++ [e.k]).Nodup from h.kn)).2.2 _ m e.k (.head _) rfl
          rw [show (dlI (e :: r)).filter (fun p => p.1 != e.k) = dlI r from filter_last nk]
          have tk : (x.suc e.k).take e.p = x.suc e.k := List.take_of_length_le hp
          rw [tk] at c₁
          refine ⟨dfsM x sn r, ?_, r, e.k :: fin, h.pop fun j hj => (c₁ j hj).resolve_right (by simp), ?_, rfl, ?_⟩
          · unfold dfsM; rw [stM]; omega
          · cases r with
            | nil => trivial
            | cons e' r' =>
              obtain ⟨d₁, d₂, d₃, d₄⟩ := c₄
              refine ⟨fun j hj => .inl ?_, fun j hj => (by cases hj), d₃, d₄.fin fun j => .tail _⟩
              rcases d₁ j hj with a | a
              · exact .tail _ a
              · rw [List.mem_singleton.1 a]; exact .head _
          · have : dfsM x sn r ≤ dfsM x sn (e :: r) := by unfold dfsM; rw [stM]; omega
            omega
end Mine

end

section
open PySem PySem.W PyProof.Rows PySem.Calls
set_option Elab.async false
set_option backward.match.sparseCases false
set_option maxRecDepth 100000
namespace Mine
variable {T : Tb} {Q : VK} {X : AS → Prop} {F : FK} {σ : AS} {n : Nat} {ct : CT} {x : Sr} {H₀ : Hp} {sa ia na da : Addr} {rs : List En} {fin sn : List Int} {τ : AS}

/-- between the turns of the search from a name -/
structure CycI (x : Sr) (H : Hp) (sa ia na da : Addr) (sn : List Int) (v : Int) (m : Nat) (τ : AS) (w : Int) (rs : List En) (fin sn' : List Int) : Prop where
  h : Dfs x H sa ia na da rs fin sn' τ
  hw : τ.loc "node" = some (.int w)
  hwk : w ∈ x.ks
  hc : Ch x.suc fin [w] rs
  hsub : ∀ k ∈ sn, k ∈ sn'
  hnil : rs = [] → w = v ∧ v ∉ sn'
  hne : rs ≠ [] → v ∈ sn'
  hm : dfsM x sn' rs = m
theorem cyc_spec (L : Lib T) (hx : x.Ok σ.heap) (cl : ∀ k ∈ x.ks, ∀ j ∈ x.suc k, j ∈ x.ks)
    (q₀ : ∀ H' fin, Ext σ.heap H' → FinOk x.suc fin → (∀ k ∈ x.ks, k ∈ fin) → Q .none ⟨σ.loc, H'⟩)
    (q₁ : ∀ H' b v mid, σ.heap b = none → Ext σ.heap H' → H' b = some (.list ((v :: mid ++ [v]).map .int)) → (v :: mid).Nodup → (∀ k ∈ v :: mid, k ∈ x.ks) → Pth (fun i j => j ∈ x.suc i) v (mid ++ [v]) → Q (.ref b) ⟨σ.loc, H'⟩) :
    callW T (n + 1) 127 [.ref x.s] Q X σ := by
  refine x_def (bs := [("self", .ref x.s)]) L.f_cyc rfl ?_
  refine x_asg (w_attr (w_var rfl (g_inst hx.inst L.a1 hx.nsd rfl trivial ?_)))
  refine x_asg (w_list (ws_nil fun sa hsa => ?_))
  refine x_asg (w_list (ws_nil fun ia hia => ?_))
  refine x_asg (w_p0 fun na hna => ?_)
  refine x_asg (w_dict fun da hda => ?_)
  have e₁ : Ext σ.heap (σ.heap.ins sa (.list [])) := Ext.ins' hsa
  have fia := e₁.none hia
  have e₂ := e₁.ins (o := .list []) fia
  have fna := e₂.none hna
  have e₃ := e₂.ins (o := .set []) fna
  have fda := e₃.none hda
  have e₄ := e₃.ins (o := .dict [] 0) fda
  have si : sa ≠ ia := ne_fresh (H := Hp.ins _ sa _) ins_eq hia
  refine x_for (w_var rfl (i_dict (e₄ _ _ hx.dict) ?_))
  rw [List.map_map]
  refine for_map (fun pre τ => ∃ fin sn, Dfs x σ.heap sa ia na da [] fin sn τ ∧ ∀ k ∈ pre, k ∈ sn) ⟨[], [], ?_, nofun⟩ (by rintro l τ ⟨fin, sn, h, _⟩; exact h.ext _ _ hx.dict) ?_ ?_
  · have a₁ := ins_eq (H := σ.heap) (a := sa) (o := .list [])
    have a₂ := ins_eq (H := σ.heap.ins sa (.list [])) (a := ia) (o := .list [])
    have a₃ := ins_eq (H := (σ.heap.ins sa (.list [])).ins ia (.list [])) (a := na) (o := .set [])
    exact ⟨rfl, rfl, rfl, rfl, rfl, ins_fresh (ins_fresh (ins_fresh a₁ hia) hna) hda, ins_fresh (ins_fresh a₂ hna) hda, ins_fresh a₃ hda, ⟨0, ins_eq⟩, si, nofun, nofun, .nil, .nil, trivial, fun k => by simp [stI], .nil, nofun, nofun, e₄, hsa, fia, fna, fda, nofun⟩
  · rintro pre v post τ K eks ⟨fin, sn, h, hpre⟩ hK
    have hv : v ∈ x.ks := by rw [eks]; exact List.mem_append.2 (.inr (.head _))
    have hkl := hx.len
    have hsl : sn.length < 4000 := by have := h.snl; omega
    refine x_if (c_cmp (w_var rfl (w_var h.ln (in_c (in_set h.hn hsl (ifB (fun hm => ?_) fun hm => ?_))))))
    · refine x_cont (hK .cont _ ⟨fin, sn, h.node, fun k m => ?_⟩)
      rcases List.mem_append.1 m with m | m
      · exact hpre k m
      · rw [List.mem_singleton.1 m]; exact of_decide_eq_true hm
    · refine x_end (x_while (fun m τ => ∃ w rs fin sn', CycI x σ.heap sa ia na da sn v m τ w rs fin sn')
        _ ⟨v, [], fin, sn, h.node, rfl, hv, trivial, fun _ m => m, fun _ => ⟨rfl, of_decide_eq_false hm⟩, nofun, rfl⟩ ?_)
      rintro m τ ⟨w, rs, fin, sn', h, hw, hwk, hc, hsub, hnil, hne, rfl⟩
      have hsl : sn'.length < 4000 := by have := h.snl; omega
      have hrl := h.rsl
      refine c_plain (w_const (t_bool (ifT ?_)))
      refine x_if (c_cmp (w_var hw (w_var h.ln (in_c (in_set h.hn hsl (ifB (fun hm => ?_) fun hm => ?_))))))
      · have hm := of_decide_eq_true hm
        obtain ⟨ep, hd⟩ := h.hd
        refine x_if (c_cmp (w_var hw (w_var h.ld (in_c (in_dict hd (ifB (fun hm => ?_) fun hm' => ?_))))))
        · have hm := of_decide_eq_true hm
          rw [dlI_keys] at hm
          obtain ⟨pos, mid, p₁, p₂, p₃⟩ := hc.ring h.kn hm
          have hpl : pos ≤ (stI rs).length := by
            rcases Nat.lt_or_ge pos (stI rs).length with l | g
            · exact Nat.le_of_lt l
            · rw [List.drop_eq_nil_of_le g] at p₂; cases p₂
          have hsub : ∀ k ∈ w :: mid, k ∈ stI rs := fun k m => by rw [← p₂] at m; exact List.mem_of_mem_drop m
          have nd : (w :: mid).Nodup := by rw [← p₂]; exact h.kn.sublist (List.drop_sublist _ _)
          have hml : (w :: mid).length ≤ (stI rs).length := by rw [← p₂, List.length_drop]; omega
          refine x_ret (w_bin (w_sl1 (w_var h.ls (w_sub (w_var h.ld (w_var hw (sub_dict hd p₁ ?_)))))))
          have hl : ((stI rs).map AV.int).length < 1000000 := by rw [List.length_map, stI_len]; omega
          refine ⟨sa, _, some pos, none, rfl, h.hs, hl, rfl, rfl, fun b hb => ?_⟩
          rw [cut_from (by rw [List.length_map]; exact hpl), ← List.map_drop, p₂]
          refine w_list (ws_cons (w_var hw (ws_nil fun c hc => ?_)))
          refine ⟨_, [.int w], ins_fresh ins_eq hc, ins_eq, ?_, of_decide_eq_true rfl, fun d hd' => ?_⟩
          · rw [List.length_map]; rw [stI_len] at hml; omega
          · have f₁ := h.ext.none hb
            have g₁ := h.ext.ins (o := .list ((w :: mid).map .int)) f₁
            have f₂ := g₁.none hc
            have g₂ := g₁.ins (o := .list [.int w]) f₂
            have f₃ := g₂.none hd'
            refine hK (.ret (.ref d)) _ (q₁ _ d w mid f₃ (g₂.ins f₃) ?_ nd (fun k m => h.snk k ((h.snm k).2 (.inl (hsub k m)))) p₃)
            rw [List.map_append]; exact ins_eq
        · have hm' := of_decide_eq_false hm'
          rw [dlI_keys] at hm'
          have hf : w ∈ fin := ((h.snm w).1 hm).resolve_left hm'
          have hrs : rs ≠ [] := fun e => absurd hm ((hnil e).1 ▸ (hnil e).2)
          refine x_end (inner_loop hx.toBk cl h (n₀ := dfsM x sn' rs) ?_ (Nat.le_refl _) ?_ ?_)
          · cases rs with
            | nil => trivial
            | cons e r => exact ⟨fun j hj => .inl ((hc.1 j hj).elim id fun a => List.mem_singleton.1 a ▸ hf), nofun, hc.2.2⟩
          · exact fun τ' u rs' fin' h' hu huk hc' hr' hlt => ⟨_, hlt, u, rs', fin', sn', h', hu, huk, hc', hsub, fun e => absurd e hr', fun _ => hne hrs, rfl⟩
          · refine fun τ' fin' h' => hK .next _ ⟨fin', sn', h', fun k m => ?_⟩
            rcases List.mem_append.1 m with m | m
            · exact hsub k (hpre k m)
            · rw [List.mem_singleton.1 m]; exact hne hrs
      · have hm := of_decide_eq_false hm
        have hb := h.ext
        obtain ⟨ep, hd⟩ := h.hd
        have bk := hx.toBk.ext hb
        refine x_expr (w_m1 (w_var h.ln (cal_set h.hn hsl (w_var hw ⟨_, h.hn, b_add hsl ?_⟩))))
        rw [if_neg hm]
        have n₁ : ia ≠ na := ne_of h.hi h.hn nofun
        have n₂ : x.D ≠ na := ne_of bk.dict h.hn nofun
        have n₃ : da ≠ na := ne_of hd h.hn nofun
        have n₄ : sa ≠ na := ne_of h.hs h.hn nofun
        have n₅ : da ≠ ia := ne_of hd h.hi nofun
        have n₆ : sa ≠ da := ne_of h.hs hd nofun
        have n₇ : x.r w ≠ na := ne_of (bk.rc w hwk) h.hn nofun
        have n₈ : x.L w ≠ na := ne_of (bk.lst w hwk) h.hn nofun
        refine x_expr (w_m1 (w_var h.li (cal_list (ins_get n₁ h.hi) (.head _) ?_)))
        refine w_attr (w_p1 (w_attr (w_sub (w_var h.l2 (w_var hw (sub_dict (ins_get n₂ bk.dict) (look_mem hwk) (g_slot (ins_get n₇ (bk.rc w hwk)) L.n_slots rfl rfl trivial ⟨_, ins_get n₈ (bk.lst w hwk), fun it hit => ?_⟩)))))))
        refine g_next ins_eq fun nx hnx => ⟨_, ins_fresh (ins_fresh (ins_get n₁ h.hi) hit) hnx, b_append ?_ ?_⟩
        · rw [ilI_len]; omega
        have hsa := ins_fresh (o := .next it) (ins_fresh (o := .iter (x.L w) 0) (ins_get n₄ h.hs (o := .set (w :: sn'))) hit) hnx
        have hda := ins_fresh (o := .next it) (ins_fresh (o := .iter (x.L w) 0) (ins_get n₃ hd (o := .set (w :: sn'))) hit) hnx
        have hsa' := ins_get (o := .list (ilI rs ++ [.ref nx])) h.si hsa
        have hda' := ins_get (o := .list (ilI rs ++ [.ref nx])) n₅ hda
        have hl₁ : ((stI rs).map AV.int).length < 1000000 := by rw [List.length_map, stI_len]; omega
        refine x_asgS (w_p1 (w_var h.ls (p_lenL hsa' hl₁ (w_var h.ld (w_var hw (set_dict hda' ?_ ?_ fun ep' => ?_))))))
        · rw [dlI_len]; omega
        · exact look_none (by rw [dlI_keys]; exact fun m => hm ((h.snm w).2 (.inl m)))
        have hsa'' := ins_get (o := .dict (dlI rs ++ [(w, .int (((stI rs).map AV.int).length : Nat))]) ep') n₆ hsa'
        refine x_expr (w_m1 (w_var h.ls (cal_list hsa'' (.head _) (w_var hw ⟨_, hsa'', b_append hl₁ ?_⟩))))
        have hll : ((stI rs).map AV.int).length = rs.length := by rw [List.length_map, stI_len]
        rw [hll]
        have hit' : τ.heap it = none := by
          by_cases e : it = na
          · subst e; exact nomatch (ins_eq (H := τ.heap) (a := it) (o := .set (w :: sn'))).symm.trans hit
          · exact (ins_ne e).symm.trans hit
        have t₁ := (ne_fresh (ins_get n₄ h.hs) hit).symm
        have t₂ := (ne_fresh (ins_get n₃ hd) hit).symm
        have t₃ := (ne_fresh (ins_get n₁ h.hi) hit).symm
        have u₁ := (ne_fresh (ins_fresh (ins_get n₄ h.hs) hit) hnx).symm
        have u₂ := (ne_fresh (ins_fresh (ins_get n₃ hd) hit) hnx).symm
        have u₃ := (ne_fresh (ins_fresh (ins_get n₁ h.hi) hit) hnx).symm
        have d := h.push (v := w) hm hwk hit' (nx := nx) (ep := ep') (H' := (((((((τ.heap.ins na (.set (w :: sn'))).ins it (.iter (x.L w) 0)).ins nx (.next it)).ins ia (.list (ilI rs ++ [.ref nx]))).ins da (.dict (dlI rs ++ [(w, .int (rs.length : Nat))]) ep')).ins sa (.list ((stI rs).map .int ++ [.int w])))))
          (ins_get n₄.symm (ins_get n₃.symm (ins_get n₁.symm (ins_fresh (ins_fresh ins_eq hit) hnx)))) (ins_get t₁ (ins_get t₂ (ins_get t₃ (ins_fresh ins_eq hnx))))
          (ins_get u₁ (ins_get u₂ (ins_get u₃ ins_eq))) (ins_get h.si.symm (ins_get n₅.symm ins_eq)) (ins_get n₆.symm ins_eq) ins_eq
          (fun b o q a₁ a₂ a₃ a₄ => ins_get a₄ (ins_get a₃ (ins_get a₂ (ins_fresh (ins_fresh (ins_get a₁ q) hit) hnx))))
        have hm₂ : dfsM x (w :: sn') (⟨w, 0, nx, it⟩ :: rs) ≤ dfsM x sn' rs := by
          unfold dfsM; rw [stM, wsum_cons (S := sn') hm hx.nd hwk]; dsimp only; omega
        have hvs : v ∈ w :: sn' := by
          cases rs with
          | nil => rw [(hnil rfl).1]; exact .head _
          | cons e r => exact .tail _ (hne nofun)
        refine x_end (inner_loop hx.toBk cl d (n₀ := dfsM x sn' rs) ⟨fun j hj => (by cases hj), nofun, Nat.zero_le _, hc⟩ hm₂ ?_ ?_)
        · exact fun τ' u rs' fin' h' hu huk hc' hr' hlt => ⟨_, hlt, u, rs', fin', w :: sn', h', hu, huk, hc', fun k m => .tail _ (hsub k m), fun e => absurd e hr', fun _ => hvs, rfl⟩
        · refine fun τ' fin' h' => hK .next _ ⟨fin', w :: sn', h', fun k m => ?_⟩
          rcases List.mem_append.1 m with m | m
          · exact .tail _ (hsub k (hpre k m))
          · rw [List.mem_singleton.1 m]; exact hvs
  · rintro τ ⟨fin, sn, h, hks⟩
    exact x_ret (w_const (q₀ _ fin h.ext h.fs fun k m => ((h.snm k).1 (hks k m)).resolve_left (by simp [stI])))
end Mine

end

section
open PySem PySem.W PyProof.Rows PySem.Calls
set_option Elab.async false
set_option backward.match.sparseCases false
set_option maxRecDepth 100000
namespace Mine
variable {T : Tb} {Q : VK} {X : AS → Prop} {F : FK} {σ σ₁ : AS} {n : Nat} {ct : CT} {x : Sr}

theorem cs_one {c : MC} {K : Bool → AS → Prop} (h : condW T ct c K σ) : condsW T ct [c] K σ := by
  show condW T ct c (fun b σ₁ => if b then K true σ₁ else K false σ₁) σ
  have e : (fun (b : Bool) (σ₁ : AS) => if b then K true σ₁ else K false σ₁) = K := by
    funext b s; cases b <;> rfl
  rw [e]; exact h

theorem flat_len {α β : Type} {f : α → List β} (hf : ∀ v, (f v).length ≤ 1) : ∀ (l : List α), (l.flatMap f).length ≤ l.length
  | [] => Nat.le_refl _
  | v :: l => by
    rw [List.flatMap_cons, List.length_append, List.length_cons]
    have := hf v; have := flat_len hf l; omega

/-- a comprehension that only makes new objects -/
theorem lp_gen {α : Type} {g : α → AV} {ns : List α} {chk : AS → Prop} {step : AV → List AV → LK → AS → Prop} {vs : List String} (f : α → List AV) (hc : ∀ τ : AS, Ext σ₁.heap τ.heap → chk τ)
    (hs : ∀ pre v post τ (k : LK), ns = pre ++ v :: post → Ext σ₁.heap τ.heap → (∀ y, y ∉ vs → τ.loc y = σ₁.loc y) → (∀ τ' : AS, Ext σ₁.heap τ'.heap → (∀ y, y ∉ vs → τ'.loc y = σ₁.loc y) → k (pre.flatMap f ++ f v) τ') → step (g v) (pre.flatMap f) k τ)
    {K : LK} (q : ∀ τ : AS, Ext σ₁.heap τ.heap → K (ns.flatMap f) τ) :
    loopW chk step (ns.map g) [] K ⟨fun x => if x ∈ vs then none else σ₁.loc x, σ₁.heap⟩ := by
  refine loop_map (fun pre acc τ => acc = pre.flatMap f ∧ Ext σ₁.heap τ.heap ∧ ∀ y, y ∉ vs → τ.loc y = σ₁.loc y) (fun l acc τ h => hc τ h.2.1) ?_ ?_ ⟨rfl, Ext.rfl, fun y hy => if_neg hy⟩
  · rintro pre v post acc τ k e ⟨rfl, h₁, h₂⟩ hk
    exact hs pre v post τ k e h₁ h₂ fun τ' h₁ h₂ => hk _ τ' ⟨by rw [List.flatMap_append, List.flatMap_singleton], h₁, h₂⟩
  · rintro acc τ ⟨rfl, h₁, h₂⟩
    exact q τ h₁

theorem flat_if {α β : Type} {p : α → Bool} {h : α → β} : ∀ (l : List α), (l.flatMap fun v => if p v then [h v] else []) = (l.filter p).map h
  | [] => rfl
  | v :: l => by
    rw [List.flatMap_cons, List.filter_cons, flat_if l]
    split <;> rfl

theorem lp_filter {x : String} {ifs : List MC} {ns : List Int} {chk : AS → Prop} (p : Int → Bool) (hl : ns.length < 1000000) (hc : ∀ τ : AS, Ext σ₁.heap τ.heap → chk τ)
    (hs : ∀ v ∈ ns, ∀ τ (K : Bool → AS → Prop), Ext σ₁.heap τ.heap → (∀ y, y ≠ x → τ.loc y = σ₁.loc y) → τ.loc x = some (.int v) → (∀ H', Ext τ.heap H' → K (p v) ⟨τ.loc, H'⟩) → condsW T ct ifs K τ)
    (q : ∀ a H', σ₁.heap a = none → H' a = some (.list ((ns.filter p).map .int)) → Ext σ₁.heap H' → Q (.ref a) ⟨σ₁.loc, H'⟩) :
    loopW chk (fun v acc k τ => bindT (.name x) v (fun τ₁ => condsW T ct ifs (fun b τ₂ => if b then compW T ct [] (fun acc k τ => evalW T ct (.var x) (fun v σ₁ => acc.length < 1000000 ∧ k (acc ++ [v]) σ₁) τ) acc k τ₂ else k acc τ₂) τ₁) τ) (ns.map .int) []
      (fun acc τ => ∀ a, τ.heap a = none → Q (.ref a) (AS.ins ⟨σ₁.loc, τ.heap⟩ a (.list acc))) ⟨fun y => if y ∈ [x] then none else σ₁.loc y, σ₁.heap⟩ := by
  refine lp_gen (fun v => if p v then [AV.int v] else []) hc ?_ ?_
  · intro pre v post τ k e h₁ h₂ hk
    have hv : v ∈ ns := by rw [e]; exact List.mem_append.2 (.inr (.head _))
    have hp : (pre.flatMap fun v => if p v then [AV.int v] else []).length < 1000000 := by
      have := flat_len (f := fun v => if p v then [AV.int v] else []) (fun v => by split <;> simp) pre
      have e' := congrArg List.length e
      rw [List.length_append] at e'
      omega
    refine hs v hv (τ.set x (.int v)) _ h₁ (fun y hy => ?_) (if_pos rfl) fun H' hH => ?_
    · exact (if_neg hy).trans (h₂ y (by simpa using hy))
    · have hl' : ∀ y, y ∉ [x] → (τ.set x (AV.int v)).loc y = σ₁.loc y := fun y hy => (if_neg (by simpa using hy)).trans (h₂ y hy)
      have hk' := hk ⟨(τ.set x (AV.int v)).loc, H'⟩ (h₁.trans hH) hl'
      cases hpv : p v with
      | true =>
        rw [hpv] at hk'
        exact ifT ⟨_, if_pos rfl, hp, hk'⟩
      | false =>
        rw [hpv, if_neg (by simp), List.append_nil] at hk'
        exact ifF hk'
  · intro τ h₁ a ha
    rw [flat_if]
    exact q a _ (h₁.none ha) ins_eq (h₁.ins (h₁.none ha))

/-- a filter over a range -/
theorem w_filterR {x y : String} {ifs : List MC} {N : Nat} (p : Int → Bool) (hy : σ.loc y = some (.int N)) (hl : N < 1000000)
    (hs : ∀ v ∈ rangeL 0 N, ∀ τ (K : Bool → AS → Prop), Ext σ.heap τ.heap → (∀ y, y ≠ x → τ.loc y = σ.loc y) → τ.loc x = some (.int v) → (∀ H', Ext τ.heap H' → K (p v) ⟨τ.loc, H'⟩) → condsW T ct ifs K τ)
    (q : ∀ a H', σ.heap a = none → H' a = some (.list (((rangeL 0 N).filter p).map .int)) → Ext σ.heap H' → Q (.ref a) ⟨σ.loc, H'⟩) : evalW T ct (.comp [x] (.var x) (.name x) (.pcall .range [.var y]) ifs []) Q σ := by
  have hN : (N : Int).natAbs < 2 ^ 60 := by rw [Int.natAbs_natCast]; omega
  refine w_comp (w_p1 (w_var hy ⟨hN, i_range (by decide) hN (lp_filter p ?_ (fun _ _ => trivial) hs q)⟩))
  rw [rangeL, List.length_map, List.length_range]; omega

theorem prep_spec (L : Lib T) (hx : x.Ok σ.heap) (hr : x.rdy = .none) (cl : ∀ k ∈ x.ks, ∀ j ∈ x.suc k, j ∈ x.ks)
    (q₀ : ∀ H' R fin, σ.heap R = none → ({ x with rdy := .ref R } : Sr).Ok H' → H' R = some (.list ((x.ks.filter (fun k => x.cnt k == 0)).map .int)) → Fr (· = x.d) σ.heap H' → FinOk x.suc fin → (∀ k ∈ x.ks, k ∈ fin) → Q .none ⟨σ.loc, H'⟩)
    (q₁ : ∀ H' R v mid, σ.heap R = none → ({ x with rdy := .ref R } : Sr).Ok H' → H' R = some (.list ((x.ks.filter (fun k => x.cnt k == 0)).map .int)) → Fr (· = x.d) σ.heap H' → (v :: mid).Nodup → (∀ k ∈ v :: mid, k ∈ x.ks) → Pth (fun i j => j ∈ x.suc i) v (mid ++ [v]) → False) :
    callW T (n + 2) 92 [.ref x.s] Q X σ := by
  have hkl := hx.len
  refine x_def (bs := [("self", .ref x.s)]) L.f_prep rfl ?_
  refine x_if (c_cmp (w_attr (w_var rfl (g_inst hx.inst L.a2 hx.nsd rfl (by rw [hr]; trivial) (w_const ?_)))))
  rw [hr]
  refine isnot_nn (ifF (x_end (x_asgA (w_comp (w_m0 (w_attr (w_var rfl (g_inst hx.inst L.a1 hx.nsd rfl trivial (cal_dict hx.dict (.tail _ (.head _)) ⟨_, _, hx.dict, b_vals (i_vals hx.dict ?_)⟩)))))))))
  rw [List.map_map]
  refine lp_gen (σ₁ := ⟨fun y => [("self", AV.ref x.s)].lookup y, σ.heap⟩) (fun k => if x.cnt k == 0 then [AV.int k] else []) (fun τ e => e _ _ hx.dict) ?_ ?_
  · intro pre v post τ k e h₁ h₂ hk
    have hv : v ∈ x.ks := by rw [e]; exact List.mem_append.2 (.inr (.head _))
    have hp : (pre.flatMap fun k => if x.cnt k == 0 then [AV.int k] else []).length < 1000000 := by
      have := flat_len (f := fun k => if x.cnt k == 0 then [AV.int k] else []) (fun v => by split <;> simp) pre
      have e' := congrArg List.length e
      rw [List.length_append] at e'
      omega
    have hrc := h₁ _ _ (hx.rc v hv)
    refine cs_one (c_cmp (w_attr (w_var rfl (g_slot hrc L.n_slots rfl rfl trivial (w_const (eq_int ?_))))))
    have hk' := hk (τ.set "i" (AV.ref (x.r v))) h₁ fun y hy => (if_neg (by simpa using hy)).trans (h₂ y hy)
    cases hpv : x.cnt v == 0 with
    | true =>
      rw [hpv] at hk'
      exact ifT (w_attr (w_var rfl (g_slot hrc L.n_slots rfl rfl trivial ⟨hp, hk'⟩)))
    | false =>
      rw [hpv, if_neg (by simp), List.append_nil] at hk'
      exact ifF hk'
  · intro τ e R hR₀
    rw [flat_if]
    have hR := e.none hR₀
    obtain ⟨H', hH'⟩ : ∃ H', H' = τ.heap.ins R (.list ((x.ks.filter fun k => x.cnt k == 0).map .int)) := ⟨_, rfl⟩
    have hR' : H' R = some (.list ((x.ks.filter fun k => x.cnt k == 0).map .int)) := by rw [hH']; exact ins_eq
    have hE : Ext σ.heap H' := by rw [hH']; exact e.ins hR
    show evalW _ _ _ _ ⟨fun y => [("self", AV.ref x.s)].lookup y, τ.heap.ins R (.list ((x.ks.filter fun k => x.cnt k == 0).map .int))⟩
    rw [← hH']
    have hx' := hx.ext hE
    refine w_var rfl (s_inst hx'.inst L.a2 hx'.nsd (of_decide_eq_true rfl) ?_)
    have ho : ({ x with rdy := .ref R } : Sr).Ok (H'.ins x.d (.ns ({ x with rdy := .ref R } : Sr).ns)) := hx'.nsW
    have hRd : R ≠ x.d := ne_of hR' hx'.nsd nofun
    refine x_asg (w_m0 (w_var rfl (cal_inst ho.inst ho.nsd rfl L.m_cyc (cyc_spec (x := { x with rdy := .ref R }) L ho cl ?_ ?_))))
    · intro H'' fin e f₁ f₂
      refine x_if (c_plain (w_var rfl (t_none (ifF (x_end (x_nil ?_))))))
      exact q₀ H'' R fin hR (ho.ext e) (e _ _ (ins_get hRd hR')) (fun a o h n => e _ _ (ins_get n (hE a o h))) f₁ f₂
    · intro H'' b v mid hb e hb' nd hk hp
      have hl : ((v :: mid ++ [v]).map AV.int).length < 1000000 := by
        have := nd.length_le_of_subset fun k m => hk k m
        rw [List.length_map, List.length_append, List.length_singleton]
        have e' : ({ x with rdy := .ref R } : Sr).ks = x.ks := rfl
        rw [e'] at this
        omega
      refine x_if (c_plain (w_var rfl (t_list hb' hl (ifT ?_))))
      exact q₁ H'' R v mid hR (ho.ext e) (e _ _ (ins_get hRd hR')) (fun a o h n => e _ _ (ins_get n (hE a o h))) nd hk hp
end Mine

end

section
open PySem PySem.W PyProof.Rows PySem.Calls
set_option Elab.async false
set_option backward.match.sparseCases false
set_option maxRecDepth 100000
namespace Mine
variable {T : Tb} {Q : VK} {X : AS → Prop} {F : FK} {σ σ₁ : AS} {n : Nat} {ct : CT} {x : Sr} {R : Addr} {g Dn : List Int} {H H₀ : Hp}

/-- what the handing out writes -/
def kF (x : Sr) (R : Addr) (a : Addr) : Prop := a = x.d ∨ a = R ∨ ∃ k ∈ x.ks, a = x.r k
theorem Fr.ins {P : Addr → Prop} {H' : Hp} {a : Addr} {o : AO} (h : Fr P H H') (p : P a) : Fr P H (H'.ins a o) := fun b _ e n => ins_get (fun q => n (q ▸ p)) (h b _ e n)
theorem kF_list (h : x.Ok H) {a : Addr} {l : List AV} (ha : H a = some (.list l)) (hn : a ≠ R) : ¬ kF x R a := by
  rintro (e | e | ⟨k, hk, e⟩)
  · exact ne_of ha h.nsd nofun e
  · exact hn e
  · exact ne_of ha (h.rc k hk) nofun e

def Sr.cnf (x : Sr) (cnt : Int → Int) (np nf : Int) : Sr := { x with cnt := cnt, np := np, nf := nf }
theorem Sr.Ok.cntC {cnt : Int → Int} {np nf c : Int} {k : Int} (h : (x.cnf cnt np nf).Ok H) (hk : k ∈ x.ks) : (x.cnf (up cnt k c) np nf).Ok (H.ins (x.r k) (.slots 40 (x.q k) [some (.int k), some (.int c), some (.ref (x.L k))])) := h.cntW hk
theorem Sr.Ok.nsC {cnt : Int → Int} {np nf np' nf' : Int} (h : (x.cnf cnt np nf).Ok H) : (x.cnf cnt np' nf').Ok (H.ins x.d (.ns (x.cnf cnt np' nf').ns)) := h.nsW
/-- a sorter's counts and who is ready -/
structure KnE (x : Sr) (R : Addr) (Dn g : List Int) (cur : Int → Nat) (H : Hp) (cnt : Int → Int) (np nf : Int) (rl : List Int) : Prop where
  ok : (x.cnf cnt np nf).Ok H
  hR : H R = some (.list (rl.map .int))
  nd : rl.Nodup
  m : ∀ k, k ∈ rl ↔ k ∈ x.ks ∧ k ∉ Dn ∧ k ∉ g ∧ cur k = 0
  c : ∀ k ∈ x.ks, cnt k = if k ∈ Dn then -2 else if k ∈ g then -1 else (cur k : Int)
/-- the state between the turns: who is done, who is handed out, how many are ahead of the others -/
structure Kn (x : Sr) (R : Addr) (Dn g : List Int) (cur : Int → Nat) (H₀ H : Hp) : Prop where
  ex : ∃ (cnt : Int → Int) (np nf : Int) (rl : List Int), KnE x R Dn g cur H cnt np nf rl
  fr : Fr (kF x R) H₀ H

theorem ready_spec (L : Lib T) (hr : x.rdy = .ref R) (hn : ∀ k ∈ x.ks, x.L k ≠ R) {cur : Int → Nat} (hk : Kn x R Dn [] cur H₀ σ.heap)
    (q : ∀ H' g, Kn x R Dn g cur H₀ H' → g.Nodup → (∀ k, k ∈ g ↔ k ∈ x.ks ∧ k ∉ Dn ∧ cur k = 0) → Q (.tup (g.map .int)) ⟨σ.loc, H'⟩) :
    callW T (n + 1) 99 [.ref x.s] Q X σ := by
  obtain ⟨⟨cnt, np, nf, rl, hx, hR, nd, hm, hc⟩, hf⟩ := hk
  have hm' : ∀ k, k ∈ rl ↔ k ∈ x.ks ∧ k ∉ Dn ∧ cur k = 0 := fun k => by simpa using hm k
  have hkl : x.ks.length < 1000 := hx.len
  have hrl : rl.length ≤ x.ks.length := nd.length_le_of_subset fun k m => ((hm' k).1 m).1
  have hll : (rl.map AV.int).length < 1000000 := by rw [List.length_map]; omega
  refine x_def (bs := [("self", .ref x.s)]) L.f_ready rfl ?_
  refine x_if (c_cmp (w_attr (w_var rfl (g_inst hx.inst L.a2 hx.nsd rfl (by show AV.plain x.rdy; rw [hr]; trivial) (w_const ?_)))))
  show cmpW .Is x.rdy _ _ _
  rw [hr]
  refine is_rn (ifF (x_end ?_))
  refine x_asg (w_p1 (w_attr (w_var rfl (g_inst hx.inst L.a2 hx.nsd rfl (by show AV.plain x.rdy; rw [hr]; trivial) ?_))))
  show primW .tuple [x.rdy] _ _
  rw [hr]
  refine ⟨_, hR, hll, ?_⟩
  refine x_asg (w_attr (w_var rfl (g_inst hx.inst L.a1 hx.nsd rfl trivial ?_)))
  refine x_for (w_var rfl (i_tup ?_))
  refine for_map (fun pre τ => ∃ cnt', And7 ((x.cnf cnt' np nf).Ok τ.heap) ((∀ k ∈ x.ks, cnt' k = if k ∈ pre then -1 else cnt k)) (τ.heap R = some (.list (rl.map .int))) (Fr (kF x R) H₀ τ.heap) (τ.loc "self" = some (.ref x.s)) (τ.loc "n2i" = some (.ref x.D)) (τ.loc "result" = some (.tup (rl.map .int))))
    ⟨cnt, hx, fun k _ => by simp, hR, hf, rfl, rfl, rfl⟩ (fun _ _ _ => trivial) ?_ ?_
  · rintro pre v post τ K e ⟨cnt', ho, hc', hR', hf', l₁, l₂, l₃⟩ hK
    have hv : v ∈ x.ks := ((hm' v).1 (by rw [e]; exact List.mem_append.2 (.inr (.head _)))).1
    have hrc := ho.rc v hv
    refine x_asgA (w_gl (w_sub (w_var l₂ (w_var rfl (sub_dict ho.dict (look_mem (f := fun k => AV.ref (x.r k)) hv) (s_slot hrc L.n_slots rfl ?_))))))
    refine hK .next _ ⟨up cnt' v (-1), ho.cntC (k := v) hv (c := -1), fun k hk => ?_, ins_get (ne_of hR' hrc nofun) hR', hf'.ins (.inr (.inr ⟨v, hv, rfl⟩)), l₁, l₂, l₃⟩
    by_cases e : k = v
    · subst e; rw [up_eq, if_pos (by simp)]
    · rw [up_ne e, hc' k hk]; simp [e]
  · rintro τ ⟨cnt', ho, hc', hR', hf', l₁, l₂, l₃⟩
    refine x_expr (w_m0 (w_attr (w_var l₁ (g_inst ho.inst L.a2 ho.nsd rfl (by show AV.plain x.rdy; rw [hr]; trivial) ?_))))
    show calleeW T x.rdy _ _ _ _
    rw [hr]
    refine cal_list hR' (.tail _ (.tail _ (.tail _ (.head _)))) ⟨_, hR', b_clear hll ?_⟩
    have ho₂ := ho.insL (l' := []) hR' hn
    refine x_augA (w_var l₁ (g_inst ho₂.inst L.a3 ho₂.nsd rfl trivial (w_p1 (w_var l₃ (p_lenT hll ⟨⟨_, rfl⟩, s_inst ho₂.inst L.a3 ho₂.nsd (of_decide_eq_true rfl) ?_⟩)))))
    have ho₃ := ho₂.nsC (np' := np + ((rl.map AV.int).length : Nat)) (nf' := nf)
    have hRd : R ≠ x.d := ne_of hR' ho.nsd nofun
    refine x_ret (w_var l₃ (q _ rl ⟨⟨cnt', np + ((rl.map AV.int).length : Nat), nf, [], ho₃, ins_get hRd ins_eq, .nil, fun k => ?_, fun k hk => ?_⟩, (hf'.ins (.inr (.inl rfl))).ins (.inl rfl)⟩ nd hm'))
    · have := hm' k
      constructor
      · nofun
      · rintro ⟨a, b, c, d⟩; exact absurd (this.2 ⟨a, b, d⟩) c
    · rw [hc' k hk, hc k hk]
      by_cases e : k ∈ rl
      · rw [if_pos e, if_neg ((hm' k).1 e).2.1, if_pos e]
      · rw [if_neg e, if_neg e]; simp
end Mine

end

section
open PySem PySem.W PyProof.Rows PySem.Calls
set_option Elab.async false
set_option backward.match.sparseCases false
set_option maxRecDepth 100000
namespace Mine
variable {T : Tb} {Q : VK} {X : AS → Prop} {F : FK} {σ σ₁ : AS} {n : Nat} {ct : CT} {x : Sr} {R : Addr} {g Dn : List Int} {H H₀ : Hp}

theorem bind_done {s : AV} {l : List AV} (h : l.length < 900000) : bindArgsA doneF (s :: l) = some [("self", s), ("nodes", .tup l)] := by
  unfold bindArgsA
  rw [if_neg]
  · simp [doneF]
  · simp [doneF]; omega

theorem wsum_le {ks : List Int} {w : Int → Nat} {S S' : List Int} (h : ∀ p ∈ S, p ∈ S') : wsum ks w S' ≤ wsum ks w S := by
  unfold wsum
  induction ks with
  | nil => exact Nat.le_refl _
  | cons k ks ih =>
    rw [List.map_cons, List.map_cons, List.sum_cons, List.sum_cons]
    by_cases a : k ∈ S
    · rw [if_pos a, if_pos (h k a)]; omega
    · rw [if_neg a]; split <;> omega

theorem done_spec (L : Lib T) (hr : x.rdy = .ref R) (hn : ∀ k ∈ x.ks, x.L k ≠ R) (cl : ∀ k ∈ x.ks, ∀ j ∈ x.suc k, j ∈ x.ks) (hk : Kn x R Dn g (deg x Dn) H₀ σ.heap)
    (gk : ∀ k ∈ g, k ∈ x.ks) (gn : g.Nodup) (gd : ∀ k ∈ g, k ∉ Dn) (hz : ∀ k, k ∈ g ∨ k ∈ Dn → deg x Dn k = 0)
    (q : ∀ H', Kn x R (g ++ Dn) [] (deg x (g ++ Dn)) H₀ H' → Q .none ⟨σ.loc, H'⟩) :
    callW T (n + 1) 120 (.ref x.s :: g.map .int) Q X σ := by
  have hkl : x.ks.length < 1000 := by obtain ⟨⟨cnt, np, nf, rl, hx, _⟩, _⟩ := hk; exact hx.len
  have hgl : (g.map AV.int).length < 900000 := by
    have := gn.length_le_of_subset fun k m => gk k m
    rw [List.length_map]; omega
  refine x_def (bs := [("self", .ref x.s), ("nodes", .tup (g.map .int))]) L.f_done (bind_done hgl) ?_
  obtain ⟨⟨cnt, np, nf, rl, hx, hR, nd, hm, hc⟩, hf⟩ := hk
  refine x_if (c_cmp (w_attr (w_var rfl (g_inst hx.inst L.a2 hx.nsd rfl (by show AV.plain x.rdy; rw [hr]; trivial) (w_const ?_)))))
  show cmpW .Is x.rdy _ _ _
  rw [hr]
  refine is_rn (ifF (x_end ?_))
  refine x_asg (w_attr (w_var rfl (g_inst hx.inst L.a1 hx.nsd rfl trivial ?_)))
  refine x_for (w_var rfl (i_tup ?_))
  refine for_map (fun pre τ => Kn x R (pre ++ Dn) g (deg x (pre ++ Dn)) H₀ τ.heap ∧ τ.loc "self" = some (.ref x.s) ∧ τ.loc "n2i" = some (.ref x.D))
    ⟨⟨⟨cnt, np, nf, rl, hx, hR, nd, hm, hc⟩, hf⟩, rfl, rfl⟩ (fun _ _ _ => trivial) ?_ ?_
  · rintro pre c post τ K e ⟨⟨⟨cnt, np, nf, rl, ho, hR, nd, hm, hc⟩, hf⟩, l₁, l₂⟩ hK
    have hcg : c ∈ g := by rw [e]; exact List.mem_append.2 (.inr (.head _))
    have hck := gk c hcg
    have hcS : c ∉ pre ++ Dn := by
      intro m
      rcases List.mem_append.1 m with m | m
      · rw [e] at gn; exact (List.nodup_append.1 gn).2.2 c m c (.head _) rfl
      · exact gd c hcg m
    have hzS : ∀ k, k ∈ g ∨ k ∈ pre ++ Dn → deg x (pre ++ Dn) k = 0 := by
      intro k m
      have m' : k ∈ g ∨ k ∈ Dn := by
        rcases m with m | m
        · exact .inl m
        · rcases List.mem_append.1 m with m | m
          · exact .inl (by rw [e]; exact List.mem_append.2 (.inl m))
          · exact .inr m
      have := hz k m'
      have := wsum_le (ks := x.ks) (w := fun p => (x.suc p).count k) (S := Dn) (S' := pre ++ Dn) fun p m => List.mem_append.2 (.inr m)
      unfold deg at *; omega
    have hdc : ∀ k, deg x (pre ++ Dn) k = deg x (c :: (pre ++ Dn)) k + (x.suc c).count k := fun k => wsum_cons (w := fun p => (x.suc p).count k) hcS ho.nd hck
    have hrc := ho.rc c hck
    refine x_if (c_cmp (w_wal (w_m1 (w_var l₂ (cal_dict ho.dict (.head _) (w_var rfl ⟨_, _, ho.dict, b_get ?_⟩))))))
    rw [look_get (x := x.cnf cnt np nf) hck]
    refine w_const (is_rn (ifF (x_end ?_)))
    refine x_asg (w_attr (w_var rfl (g_slot hrc L.n_slots rfl rfl trivial ?_)))
    have hcc : cnt c = -1 := by rw [hc c hck, if_neg hcS, if_pos hcg]
    show execsW _ _ _ _ (AS.set _ _ (.int (cnt c)))
    rw [hcc]
    refine x_if (c_cmp (w_var rfl (w_gl (ne_int (ifF (x_end ?_))))))
    refine x_asgA (w_gl (w_var rfl (s_slot hrc L.n_slots rfl ?_)))
    have ho₂ := ho.cntC (k := c) hck (c := -2)
    refine x_for (w_attr (w_var rfl (g_slot (ho₂.rc c hck) L.n_slots rfl rfl trivial (i_list (ho₂.lst c hck) ?_))))
    refine for_map (ns := x.suc c) (fun sp τ => Kn x R (c :: (pre ++ Dn)) g (fun k => deg x (c :: (pre ++ Dn)) k + ((x.suc c).count k - sp.count k)) H₀ τ.heap ∧ τ.loc "self" = some (.ref x.s) ∧ τ.loc "n2i" = some (.ref x.D))
      ⟨⟨⟨up cnt c (-2), np, nf, rl, ho₂, ins_get (ne_of hR hrc nofun) hR, nd, fun k => ?_, fun k hk => ?_⟩, hf.ins (.inr (.inr ⟨c, hck, rfl⟩))⟩, l₁, l₂⟩ (fun l τ h => ?_) ?_ ?_
    · rw [hm k, hdc k, List.count_nil, Nat.sub_zero, List.mem_cons]
      constructor
      · rintro ⟨a, b, d, f⟩; exact ⟨a, fun h => h.elim (fun h => d (h ▸ hcg)) b, d, f⟩
      · rintro ⟨a, b, d, f⟩; exact ⟨a, fun h => b (.inr h), d, f⟩
    · by_cases e : k = c
      · subst e; rw [up_eq, if_pos (.head _)]
      · rw [up_ne e, hc k hk, hdc k, List.count_nil, Nat.sub_zero]
        simp only [List.mem_cons, or_iff_right e]
    · obtain ⟨⟨⟨cnt, np, nf, rl, h, _⟩, _⟩, _⟩ := h
      exact h.lst c hck
    · rintro sp j sq τ K e' ⟨⟨⟨cnt, np, nf, rl, ho, hR, nd, hm, hc⟩, hf⟩, l₁, l₂⟩ hK
      have hjc : j ∈ x.suc c := by rw [e']; exact List.mem_append.2 (.inr (.head _))
      have hj : j ∈ x.ks := cl c hck j hjc
      have hpos : 0 < (x.suc c).count j := List.count_pos_iff.2 hjc
      have hj₁ : j ∉ g := fun m => by have := hzS j (.inl m); rw [hdc] at this; omega
      have hj₂ : j ∉ c :: (pre ++ Dn) := fun m => by
        rcases List.mem_cons.1 m with m | m
        · exact hj₁ (m ▸ hcg)
        · have := hzS j (.inr m); rw [hdc] at this; omega
      have hcj : (x.suc c).count j = sp.count j + (1 + sq.count j) := by
        rw [e', List.count_append, List.count_cons_self]; omega
      have hcnt : ∀ k, (x.suc c).count k - sp.count k = (if k = j then 1 else 0) + ((x.suc c).count k - (sp ++ [j]).count k) := by
        intro k
        by_cases q : k = j
        · subst q; rw [List.count_append, List.count_singleton_self, if_pos rfl]; omega
        · rw [List.count_append, List.count_eq_zero_of_not_mem (a := k) (l := [j]) (by simpa using q), if_neg q]; omega
      have hrj := ho.rc j hj
      have hcjv := hc j hj
      rw [if_neg hj₂, if_neg hj₁] at hcjv
      refine x_asg (w_sub (w_var l₂ (w_var rfl (sub_dict ho.dict (look_mem (f := fun k => AV.ref (x.r k)) hj) ?_))))
      refine x_augA (w_var rfl (g_slot hrj L.n_slots rfl rfl trivial (w_const ⟨⟨_, rfl⟩, s_slot hrj L.n_slots rfl ?_⟩)))
      have ho₂ := ho.cntC (k := j) hj (c := cnt j - 1)
      have hR₂ := ins_get (o := .slots 40 (x.q j) [some (.int j), some (.int (cnt j - 1)), some (.ref (x.L j))]) (ne_of hR hrj nofun) hR
      have hcw : ∀ k ∈ x.ks, up cnt j (cnt j - 1) k = if k ∈ c :: (pre ++ Dn) then -2 else if k ∈ g then -1 else ((deg x (c :: (pre ++ Dn)) k + ((x.suc c).count k - (sp ++ [j]).count k) : Nat) : Int) := by
        intro k hk
        by_cases q : k = j
        · subst q
          have := hcnt k
          rw [up_eq, if_neg hj₂, if_neg hj₁, hcjv]
          rw [if_pos rfl] at this
          omega
        · have := hcnt k
          rw [if_neg q] at this
          rw [up_ne q, hc k hk, this, Nat.zero_add]
      have hfr := hf.ins (o := .slots 40 (x.q j) [some (.int j), some (.int (cnt j - 1)), some (.ref (x.L j))]) (.inr (.inr ⟨j, hj, rfl⟩))
      have hval : cnt j - 1 = ((deg x (c :: (pre ++ Dn)) j + ((x.suc c).count j - (sp ++ [j]).count j) : Nat) : Int) := by
        have := hcw j hj; rw [up_eq, if_neg hj₂, if_neg hj₁] at this; exact this
      have hrlj : j ∉ rl := fun m => by have := ((hm j).1 m).2.2.2; omega
      have hrl : rl.length ≤ x.ks.length := nd.length_le_of_subset fun k m => ((hm k).1 m).1
      have hrj₂ : _ = some (AO.slots 40 (x.q j) [some (.int j), some (.int (up cnt j (cnt j - 1) j)), some (.ref (x.L j))]) := ho₂.rc j hj
      rw [up_eq] at hrj₂
      refine x_if (c_cmp (w_attr (w_var rfl (g_slot hrj₂ L.n_slots rfl rfl trivial (w_const (eq_int (ifB (fun hq => ?_) fun hq => ?_)))))))
      · have hq : cnt j - 1 = 0 := by simpa using hq
        refine x_expr (w_m1 (w_attr (w_var l₁ (g_inst ho₂.inst L.a2 ho₂.nsd rfl (by show AV.plain x.rdy; rw [hr]; trivial) ?_))))
        show calleeW T x.rdy _ _ _ _
        rw [hr]
        refine cal_list hR₂ (.head _) (w_var rfl ⟨_, hR₂, b_append (by rw [List.length_map]; omega) ?_⟩)
        have ho₃ := ho₂.insL (l' := rl.map .int ++ [.int j]) hR₂ hn
        refine x_end (x_nil (hK .next _ ⟨⟨⟨_, np, nf, rl ++ [j], ho₃, ?_, ?_, fun k => ?_, hcw⟩, hfr.ins (.inr (.inl rfl))⟩, l₁, l₂⟩))
        · rw [List.map_append]; exact ins_eq
        · exact List.nodup_append.2 ⟨nd, List.pairwise_singleton _ _, fun a ha b hb q => hrlj (List.mem_singleton.1 hb ▸ q ▸ ha)⟩
        · rw [List.mem_append, hm k, List.mem_singleton]
          have := hcnt k
          by_cases q : k = j
          · subst q
            exact ⟨fun _ => ⟨hj, hj₂, hj₁, by omega⟩, fun _ => .inr rfl⟩
          · rw [if_neg q, Nat.zero_add] at this
            rw [this]; simp [q]
      · have hq : ¬ cnt j - 1 = 0 := by simpa using hq
        refine x_end (x_nil (hK .next _ ⟨⟨⟨_, np, nf, rl, ho₂, hR₂, nd, fun k => ?_, hcw⟩, hfr⟩, l₁, l₂⟩))
        rw [hm k]
        have := hcnt k
        by_cases q : k = j
        · subst q
          exact ⟨fun h => by have := h.2.2.2; omega, fun h => by have := h.2.2.2; omega⟩
        · rw [if_neg q, Nat.zero_add] at this
          rw [this]
    · rintro τ ⟨⟨⟨cnt, np, nf, rl, ho, hR, nd, hm, hc⟩, hf⟩, l₁, l₂⟩
      refine x_augA (w_var l₁ (g_inst ho.inst L.a4 ho.nsd rfl trivial (w_const ⟨⟨_, rfl⟩, s_inst ho.inst L.a4 ho.nsd (of_decide_eq_true rfl) ?_⟩)))
      have ho₂ := ho.nsC (np' := np) (nf' := nf + 1)
      have hS : ∀ p, p ∈ c :: (pre ++ Dn) ↔ p ∈ (pre ++ [c]) ++ Dn := fun p => by
        simp only [List.mem_cons, List.mem_append, List.not_mem_nil, or_false]
        constructor
        · rintro (a | a | a)
          · exact .inl (.inr a)
          · exact .inl (.inl a)
          · exact .inr a
        · rintro ((a | a) | a)
          · exact .inr (.inl a)
          · exact .inl a
          · exact .inr (.inr a)
      have hD : ∀ k, deg x (c :: (pre ++ Dn)) k = deg x ((pre ++ [c]) ++ Dn) k := fun k => wsum_mem hS
      refine hK .next _ ⟨⟨⟨cnt, np, nf + 1, rl, ho₂, ins_get (ne_of hR ho.nsd nofun) hR, nd, fun k => ?_, fun k hk => ?_⟩, hf.ins (.inl rfl)⟩, l₁, l₂⟩
      · rw [hm k, hS k, hD k, Nat.sub_self, Nat.add_zero]
      · rw [hc k hk, hD k, Nat.sub_self, Nat.add_zero]; simp only [hS k]
  · rintro τ ⟨⟨⟨cnt, np, nf, rl, ho, hR, nd, hm, hc⟩, hf⟩, l₁, l₂⟩
    refine q _ ⟨⟨cnt, np, nf, rl, ho, hR, nd, fun k => ?_, fun k hk => ?_⟩, hf⟩
    · rw [hm k]
      constructor
      · rintro ⟨a, b, c, d⟩; exact ⟨a, b, List.not_mem_nil, d⟩
      · rintro ⟨a, b, c, d⟩; exact ⟨a, b, fun m => b (List.mem_append.2 (.inl m)), d⟩
    · rw [hc k hk]
      by_cases e : k ∈ g ++ Dn
      · rw [if_pos e, if_pos e]
      · rw [if_neg e, if_neg e, if_neg (fun m => e (List.mem_append.2 (.inl m))), if_neg List.not_mem_nil]
end Mine

end

section
open PySem PySem.W PyProof.Rows PySem.Calls
set_option Elab.async false
set_option backward.match.sparseCases false
set_option maxRecDepth 100000
namespace Mine
variable {T : Tb} {Q : VK} {X : AS → Prop} {F : FK} {σ σ₁ τ : AS} {n : Nat} {ct : CT} {x : Sr} {H H' H₀ : Hp} {k j p : Int}

theorem wsum_congr {ks : List Int} {w w' : Int → Nat} {S : List Int} (h : ∀ p ∈ ks, p ∉ S → w p = w' p) : wsum ks w S = wsum ks w' S := by
  unfold wsum
  congr 1
  refine List.map_congr_left fun p hp => ?_
  by_cases e : p ∈ S
  · rw [if_pos e, if_pos e]
  · rw [if_neg e, if_neg e, h p hp e]

/-- a step more -/
theorem deg_step (nd : x.ks.Nodup) (hp : p ∈ x.ks) {y : Sr} (hk : y.ks = x.ks) (hs : y.suc = up x.suc p (x.suc p ++ [j])) : deg y [] k = deg x [] k + (if k = j then 1 else 0) := by
  unfold deg
  rw [hk, hs, wsum_cons (S := []) List.not_mem_nil nd hp, wsum_cons (S := []) (w := fun q => (x.suc q).count k) List.not_mem_nil nd hp, up_eq, List.count_append]
  have : ([j] : List Int).count k = if k = j then 1 else 0 := by
    by_cases e : k = j
    · subst e; simp
    · rw [if_neg e]; exact List.count_eq_zero_of_not_mem (by simpa using e)
  rw [this, wsum_congr (w' := fun q => (x.suc q).count k) fun q _ hq => by rw [up_ne (by simpa using hq)]]
  omega

/-- a sorter that was built, of new objects -/
structure Bt (H₀ : Hp) (x : Sr) (H : Hp) : Prop where
  ok : x.Ok H
  rdy : x.rdy = .none
  ext : Ext H₀ H
  fs : H₀ x.s = none
  fd : H₀ x.d = none
  fD : H₀ x.D = none
  fr : ∀ k ∈ x.ks, H₀ (x.r k) = none
  fL : ∀ k ∈ x.ks, H₀ (x.L k) = none
  cl : ∀ k ∈ x.ks, ∀ j ∈ x.suc k, j ∈ x.ks
  dg : ∀ k ∈ x.ks, x.cnt k = deg x [] k

/-- a new sorter -/
theorem new_bt (L : Lib T) (k : ∀ (x : Sr) H', Bt σ.heap x H' → x.ks = [] → (∀ k, x.suc k = []) → Q (.ref x.s) ⟨σ.loc, H'⟩) : evalW T (callW T (n + 1)) (.ncall 137 []) Q σ := by
  refine w_n0 (new_ts L fun s d D H' hs hd hD h₁ h₂ h₃ e => ?_)
  let x : Sr := ⟨s, d, D, 0, [], fun _ => 0, fun _ => 0, fun _ => 0, fun _ => 0, fun _ => [], .none, 0, 0⟩
  refine k x H' ⟨⟨⟨h₃, .nil, Nat.zero_lt_succ _, nofun, nofun, nofun, nofun⟩, h₁, h₂⟩, rfl, e, hs, hd, hD, nofun, nofun, nofun, nofun⟩ rfl fun _ => rfl

theorem Bt.put (h : Bt H₀ x H) {a q b : Addr} {ep : Nat} (hk : k ∉ x.ks) (ho : (x.put k a q b ep).Ok H') (ha : H a = none) (hb : H b = none) (hf : Fr (· = x.D) H H') : Bt H₀ (x.put k a q b ep) H' := by
  have old : ∀ j ∈ x.ks, j ≠ k := fun j hj e => hk (e ▸ hj)
  have m : ∀ j ∈ (x.put k a q b ep).ks, j = k ∨ j ∈ x.ks := fun j hj => by
    rcases List.mem_append.1 hj with hj | hj
    · exact .inr hj
    · exact .inl (List.mem_singleton.1 hj)
  have hsuc : ∀ p ∈ x.ks, (x.put k a q b ep).suc p = x.suc p := fun p hp => up_ne (old p hp)
  refine ⟨ho, h.rdy, fun c o e => hf c o (h.ext c o e) (ne_fresh e h.fD), h.fs, h.fd, h.fD, fun j hj => ?_, fun j hj => ?_, fun i hi j hj => ?_, fun j hj => ?_⟩
  · rcases m j hj with rfl | hj
    · show H₀ (up x.r j a j) = none; rw [up_eq]; exact h.ext.none ha
    · show H₀ (up x.r k a j) = none; rw [up_ne (old j hj)]; exact h.fr j hj
  · rcases m j hj with rfl | hj
    · show H₀ (up x.L j b j) = none; rw [up_eq]; exact h.ext.none hb
    · show H₀ (up x.L k b j) = none; rw [up_ne (old j hj)]; exact h.fL j hj
  · rcases m i hi with rfl | hi
    · rw [show (x.put i a q b ep).suc i = [] from up_eq] at hj; cases hj
    · rw [hsuc i hi] at hj; exact List.mem_append.2 (.inl (h.cl i hi j hj))
  · have hd : deg (x.put k a q b ep) [] j = deg x [] j := by
      unfold deg wsum
      show ((x.ks ++ [k]).map _).sum = _
      rw [List.map_append, List.sum_append, List.map_singleton]
      have hk0 : (x.put k a q b ep).suc k = [] := up_eq
      simp only [List.not_mem_nil, if_false, hk0, List.count_nil, List.sum_cons, List.sum_nil, Nat.add_zero]
      congr 1
      exact List.map_congr_left fun p hp => by rw [hsuc p hp]
    rw [hd]
    rcases m j hj with rfl | hj
    · rw [show (x.put j a q b ep).cnt j = 0 from up_eq]
      have : deg x [] j = 0 := by
        unfold deg wsum
        have z : ∀ l : List Int, (∀ p ∈ l, p ∈ x.ks) → (l.map fun p => if p ∈ ([] : List Int) then 0 else (x.suc p).count j).sum = 0 := by
          intro l hl
          induction l with
          | nil => rfl
          | cons p l ih =>
            rw [List.map_cons, List.sum_cons, ih fun p hp => hl p (.tail _ hp), if_neg List.not_mem_nil, List.count_eq_zero_of_not_mem fun m => hk (h.cl p (hl p (.head _)) j m)]
        exact z x.ks fun _ m => m
      rw [this]; rfl
    · rw [show (x.put k a q b ep).cnt j = x.cnt j from up_ne (old j hj)]; exact h.dg j hj

/-- a step more -/
theorem Bt.step (h : Bt H₀ x H) (hk : k ∈ x.ks) (hp : p ∈ x.ks) (ho : ({ x with cnt := up x.cnt k (x.cnt k + 1), suc := up x.suc p (x.suc p ++ [k]) } : Sr).Ok H') (he : Ext H₀ H') :
    Bt H₀ { x with cnt := up x.cnt k (x.cnt k + 1), suc := up x.suc p (x.suc p ++ [k]) } H' := by
  refine ⟨ho, h.rdy, he, h.fs, h.fd, h.fD, h.fr, h.fL, fun i hi j hj => ?_, fun j hj => ?_⟩
  · by_cases e : i = p
    · subst e
      dsimp only at hj
      rw [up_eq] at hj
      rcases List.mem_append.1 hj with hj | hj
      · exact h.cl i hi j hj
      · rw [List.mem_singleton.1 hj]; exact hk
    · dsimp only at hj
      rw [up_ne e] at hj; exact h.cl i hi j hj
  · rw [deg_step (x := x) (y := { x with cnt := up x.cnt k (x.cnt k + 1), suc := up x.suc p (x.suc p ++ [k]) }) (p := p) (j := k) h.ok.nd hp rfl rfl]
    by_cases e : j = k
    · subst e; rw [if_pos rfl]; dsimp only; rw [up_eq, h.dg j hj]; rfl
    · rw [if_neg e]; dsimp only; rw [up_ne e, h.dg j hj]; rfl

theorem Bt.own (h : Bt H₀ x H) {a : Addr} {o : AO} (e : H₀ a = some o) : ¬ x.own a := by
  rintro (q | q | ⟨k, hk, q | q⟩ | q)
  · exact ne_fresh e h.fd q
  · exact ne_fresh e h.fD q
  · exact ne_fresh e (h.fr k hk) q
  · exact ne_fresh e (h.fL k hk) q
  · rw [h.rdy] at q; cases q

/-- the names are told -/
theorem tell_names (L : Lib T) {chk : AS → Prop} {ns : List Int} (nd : ns.Nodup) (hl : ns.length < 900) (h : Bt H₀ x σ.heap) (hk : x.ks = []) (hs : ∀ k, x.suc k = []) (hv : σ.loc "sorter" = some (.ref x.s))
    (hc : ∀ τ : AS, Ext H₀ τ.heap → chk τ) (q : ∀ (τ : AS) (y : Sr), Bt H₀ y τ.heap → y.ks = ns → (∀ k, y.suc k = []) → y.s = x.s → (∀ z, z ≠ "name" → τ.loc z = σ.loc z) → F .next τ) :
    forLoopW chk (fun v K τ => bindT (.name "name") v (fun τ₁ => execsW T (callW T (n + 3)) [.expr (.meth (.var "sorter") "add" [.var "name"])] K τ₁) τ) (ns.map .int) F σ := by
  refine for_map (fun pre τ => ∃ y, And5 (Bt H₀ y τ.heap) (y.ks = pre) ((∀ k, y.suc k = [])) (y.s = x.s) (∀ z, z ≠ "name" → τ.loc z = σ.loc z)) ⟨x, h, hk, hs, rfl, fun _ _ => rfl⟩ (by rintro l τ ⟨y, h, _⟩; exact hc τ h.ext) ?_ (by rintro τ ⟨y, a, b, c, d, e⟩; exact q τ y a b c d e)
  rintro pre v post τ K e ⟨y, hy, hyk, hys, hyx, hl'⟩ hK
  have hvn : v ∉ y.ks := by
    rw [hyk]; rw [e] at nd
    exact fun m => (List.nodup_append.1 nd).2.2 v m v (.head _) rfl
  have hyl : y.ks.length < 900 := by rw [hyk]; rw [e, List.length_append] at hl; omega
  have hv' : τ.loc "sorter" = some (.ref y.s) := by rw [hyx, hl' "sorter" (by decide)]; exact hv
  refine x_expr (w_m1 (w_var hv' (cal_inst hy.ok.inst hy.ok.nsd rfl L.m_add (w_var rfl (add_new L hy.ok hy.rdy hvn hyl fun a q b ep H' ho ha hb hf => ?_)))))
  refine x_nil (hK .next _ ⟨_, hy.put hvn ho ha hb hf, ?_, fun k => ?_, hyx, fun z hz => (if_neg hz).trans (hl' z hz)⟩)
  · show y.ks ++ [v] = _; rw [hyk]
  · show up y.suc v [] k = []
    by_cases q : k = v
    · rw [q, up_eq]
    · rw [up_ne q]; exact hys k

/-- the steps are told -/
theorem tell_steps (L : Lib T) {chk : AS → Prop} {es : List (Int × Int)} (hes : ∀ e ∈ es, e.1 ∈ x.ks ∧ e.2 ∈ x.ks) (hl : es.length < 900) (h : Bt H₀ x σ.heap) (hs : ∀ k, x.suc k = []) (hv : σ.loc "sorter" = some (.ref x.s))
    (hc : ∀ τ : AS, Ext H₀ τ.heap → chk τ) (q : ∀ (τ : AS) (y : Sr), Bt H₀ y τ.heap → y.ks = x.ks → (∀ i j, j ∈ y.suc i ↔ (i, j) ∈ es) → (∀ i, (y.suc i).length ≤ es.length) → y.s = x.s → (∀ z, z ≠ "first" → z ≠ "second" → τ.loc z = σ.loc z) → F .next τ) :
    forLoopW chk (fun v K τ => bindT (.tup ["first", "second"]) v (fun τ₁ => execsW T (callW T (n + 3)) [.expr (.meth (.var "sorter") "add" [.var "second", .var "first"])] K τ₁) τ) (es.map pairOf) F σ := by
  refine for_map (fun pre τ => ∃ y, Bt H₀ y τ.heap ∧ y.ks = x.ks ∧ (∀ i j, j ∈ y.suc i ↔ (i, j) ∈ pre) ∧ (∀ i, (y.suc i).length ≤ pre.length) ∧ y.s = x.s ∧ ∀ z, z ≠ "first" → z ≠ "second" → τ.loc z = σ.loc z)
    ⟨x, h, rfl, fun i j => by rw [hs i]; simp, fun i => by rw [hs i]; exact Nat.zero_le _, rfl, fun _ _ _ => rfl⟩ (by rintro l τ ⟨y, h, _⟩; exact hc τ h.ext) ?_ (by rintro τ ⟨y, a, b, c, d, e, f⟩; exact q τ y a b c d e f)
  rintro pre ⟨f, s⟩ post τ K e ⟨y, hy, hyk, hys, hyl, hyx, hl'⟩ hK
  have hm := hes (f, s) (by rw [e]; exact List.mem_append.2 (.inr (.head _)))
  have hf : f ∈ y.ks := by rw [hyk]; exact hm.1
  have hsk : s ∈ y.ks := by rw [hyk]; exact hm.2
  have hv' : τ.loc "sorter" = some (.ref y.s) := by rw [hyx, hl' "sorter" (by decide) (by decide)]; exact hv
  have hpl : (y.suc f).length < 900 := by have := hyl f; rw [e, List.length_append] at hl; omega
  refine ⟨[.int f, .int s], rfl, rfl, ?_⟩
  refine x_expr (w_m2 (w_var hv' (cal_inst hy.ok.inst hy.ok.nsd rfl L.m_add (w_var rfl (w_var rfl (add_old L hy.ok hy.rdy hsk hf hpl fun H' ho hfr => ?_))))))
  refine x_nil (hK .next _ ⟨_, hy.step hsk hf ho fun a o q => hfr a o (hy.ext a o q) (hy.own q), hyk, fun i j => ?_, fun i => ?_, hyx, fun z hz hz' => (if_neg hz').trans ((if_neg hz).trans (hl' z hz hz'))⟩)
  · rw [List.mem_append, ← hys i j, List.mem_singleton, Prod.mk.injEq]
    show j ∈ up y.suc f (y.suc f ++ [s]) i ↔ _
    by_cases q : i = f
    · subst q; rw [up_eq, List.mem_append, List.mem_singleton]; simp
    · rw [up_ne q]; simp [q]
  · show (up y.suc f (y.suc f ++ [s]) i).length ≤ _
    rw [List.length_append, List.length_singleton]
    by_cases q : i = f
    · subst q; rw [up_eq, List.length_append, List.length_singleton]; have := hyl i; omega
    · rw [up_ne q]; have := hyl i; omega
end Mine

end

section
open PySem PySem.W PyProof.Rows PySem.Calls
set_option Elab.async false
set_option backward.match.sparseCases false
set_option maxRecDepth 100000
namespace Mine

/-- a row of steps leads from one to the other -/
inductive Rch (E : Int → Int → Prop) (u : Int) : Int → Prop
  | one {v : Int} : E u v → Rch E u v
  | snoc {w v : Int} : Rch E u w → E w v → Rch E u v
variable {E E₀ E' : Int → Int → Prop} {u v w g : Int} {left left' : List Int}
theorem Rch.trans (a : Rch E u v) (b : Rch E v w) : Rch E u w := by
  induction b with
  | one h => exact a.snoc h
  | snoc _ h ih => exact ih.snoc h
theorem Rch.bind (h : ∀ i j, E i j → Rch E' i j) (a : Rch E u v) : Rch E' u v := by
  induction a with
  | one k => exact h _ _ k
  | snoc _ k ih => exact ih.trans (h _ _ k)
theorem Rch.last (a : Rch E u v) : ∃ p, E p v ∧ (p = u ∨ Rch E u p) := by
  cases a with
  | one h => exact ⟨u, h, .inl rfl⟩
  | snoc a h => exact ⟨_, h, .inr a⟩
theorem Pth.rch : ∀ {l : List Int} {u : Int}, Pth E u (l ++ [v]) → Rch E u v
  | [], _, h => .one h.1
  | _ :: _, _, h => (Rch.one h.1).trans (Pth.rch h.2)

theorem FinOk.down {suc : Int → List Int} : ∀ {fin : List Int}, FinOk suc fin → ∀ p ∈ fin, ∀ j ∈ suc p, j ∈ fin
  | k :: r, ⟨h, h'⟩, p, hp, j, hj => by
    rcases List.mem_cons.1 hp with rfl | hp
    · exact .tail _ (h j hj)
    · exact .tail _ (h'.down p hp j hj)
theorem FinOk.none {suc : Int → List Int} {P : Int → Prop} (hP : ∀ v, P v → ∃ p, P p ∧ v ∈ suc p) : ∀ {fin : List Int}, FinOk suc fin → (∀ v, P v → v ∈ fin) → ∀ v, ¬ P v
  | [], _, h, v, hv => by cases h v hv
  | k :: r, ⟨h₁, h₂⟩, h, v, hv => by
    refine FinOk.none hP h₂ (fun w hw => ?_) v hv
    rcases List.mem_cons.1 (h w hw) with rfl | m
    · obtain ⟨p, p₁, p₂⟩ := hP w hw
      rcases List.mem_cons.1 (h p p₁) with rfl | m
      · exact h₁ _ p₂
      · exact h₂.down p m _ p₂
    · exact m

end Mine

end

section
open PySem PySem.W PyProof.Rows PySem.Calls
set_option Elab.async false
set_option backward.match.sparseCases false
set_option maxRecDepth 100000
namespace Mine

/-- the opposite sign -/
def nt (x : Int) : Int := x + 1 - 2 * (x % 2)
theorem nt_eq (x : Int) : Builtin.bitXor x 1 = nt x := by rw [bitXor_and, bitAnd_m1]; rfl
theorem nt_ne (x : Int) : nt x ≠ x := by unfold nt; omega
theorem nt_in {x : Int} {h : Nat} (a : 0 ≤ x) (b : x < ((2 * h : Nat) : Int)) : 0 ≤ nt x ∧ nt x < ((2 * h : Nat) : Int) := by unfold nt; omega

variable {E : Int → Int → Prop} {st : Int → Int} {u v w : Int}
/-- the one, or each behind the other -/
def MR (E : Int → Int → Prop) (u v : Int) : Prop := u = v ∨ (Rch E u v ∧ Rch E v u)
theorem MR.symm (h : MR E u v) : MR E v u := h.elim (fun e => .inl e.symm) fun h => .inr ⟨h.2, h.1⟩
theorem MR.trans (h : MR E u v) (k : MR E v w) : MR E u w := by
  rcases h with rfl | h
  · exact k
  · rcases k with rfl | k
    · exact .inr h
    · exact .inr ⟨h.1.trans k.1, k.2.trans h.2⟩
theorem pth_mid {D : Int → Int → Prop} {x y : Int} : ∀ {l : List Int} {a : Int}, Pth D a (l ++ [y]) → x ∈ l → Rch D a x ∧ Rch D x y
  | b :: l, a, h, m => by
    rcases List.mem_cons.1 m with rfl | m
    · exact ⟨.one h.1, h.2.rch⟩
    · have := pth_mid h.2 m
      exact ⟨(Rch.one h.1).trans this.1, this.2⟩

/-- truth that goes along the steps -/
theorem no_choice {H : Int → Prop} (hs : ∀ i j, E i j → H i → H j) (hx : ∀ x, (H x ∧ ¬ H (nt x)) ∨ (¬ H x ∧ H (nt x))) {x : Int} (hm : MR E x (nt x)) : False := by
  have go : ∀ {i j}, Rch E i j → H i → H j := by
    intro i j r
    induction r with
    | one k => exact hs _ _ k
    | snoc _ k ih => exact fun h => hs _ _ k (ih h)
  rcases hm with e | ⟨a, b⟩
  · exact nt_ne x e.symm
  · rcases hx x with ⟨h₁, h₂⟩ | ⟨h₁, h₂⟩
    · exact h₂ (go a h₁)
    · exact h₁ (go b h₂)

/-- what is finished without a ring -/
theorem FinOk.acyc {suc : Int → List Int} {fin : List Int} (h : FinOk suc fin) {D : Int → Int → Prop} (hD : ∀ i j, D i j → i ∈ fin ∧ j ∈ suc i) (r : Rch D v v) : False := by
  refine FinOk.none (P := fun x => Rch D v x ∧ Rch D x v) (fun x ⟨a, b⟩ => ?_) h (fun x ⟨a, b⟩ => ?_) v ⟨r, r⟩
  · obtain ⟨p, p₁, p₂⟩ := a.last
    refine ⟨p, ⟨?_, (Rch.one p₁).trans b⟩, (hD _ _ p₁).2⟩
    rcases p₂ with rfl | p₂
    · exact r
    · exact p₂
  · obtain ⟨p, p₁, _⟩ := b.trans r |>.last
    cases b with
    | one k => exact (hD _ _ k).1
    | snoc c k =>
      have hd : ∀ {i j}, Rch D i j → i ∈ fin := by
        intro i j r
        induction r with
        | one k => exact (hD _ _ k).1
        | snoc _ _ ih => exact ih
      exact hd c
end Mine

end

section
open PySem PySem.W PyProof.Rows PySem.Calls
set_option Elab.async false
set_option backward.match.sparseCases false
set_option maxRecDepth 100000
set_option genInjectivity false
namespace Mine
variable {T : Tb} {Q : VK} {X : AS → Prop} {F : FK} {σ σ₁ τ : AS} {n : Nat} {ct : CT} {x : Sr} {H H' H₀ : Hp} {R : Addr}

theorem eq_refs {a b : Addr} {ns ms : List Int} {K : Bool → Prop} (h₁ : IsInts σ a ns) (h₂ : IsInts σ b ms) (k : K (decide (ns = ms))) : cmpW .Eq (.ref a) (.ref b) K σ := ⟨ns, ms, h₁, h₂, k⟩
theorem ne_refs {a b : Addr} {ns ms : List Int} {K : Bool → Prop} (h₁ : IsInts σ a ns) (h₂ : IsInts σ b ms) (k : K (!decide (ns = ms))) : cmpW .NotEq (.ref a) (.ref b) K σ := ⟨ns, ms, h₁, h₂, k⟩

theorem wsum_zero {ks : List Int} {w : Int → Nat} {S : List Int} : wsum ks w S = 0 ↔ ∀ p ∈ ks, p ∉ S → w p = 0 := by
  unfold wsum
  induction ks with
  | nil => simp
  | cons k ks ih =>
    rw [List.map_cons, List.sum_cons, Nat.add_eq_zero_iff, ih]
    constructor
    · rintro ⟨a, b⟩ p hp hS
      rcases List.mem_cons.1 hp with rfl | hp
      · rw [if_neg hS] at a; exact a
      · exact b p hp hS
    · refine fun h => ⟨?_, fun p hp => h p (.tail _ hp)⟩
      split
      · rfl
      · rename_i q; exact h k (.head _) q
theorem deg_zero {Dn : List Int} {k : Int} : deg x Dn k = 0 ↔ ∀ p ∈ x.ks, p ∉ Dn → k ∉ x.suc p := by
  unfold deg
  rw [wsum_zero]
  exact ⟨fun h p a b c => absurd (h p a b) (Nat.ne_of_gt (List.count_pos_iff.2 c)), fun h p a b => List.count_eq_zero_of_not_mem (h p a b)⟩

theorem sorted_eq {ms g row : List Int} (h₁ : ms.Perm g) (h₂ : ms.Pairwise (· ≤ ·)) (h₃ : g.Nodup) (h₄ : row.Pairwise (· < ·)) (h₅ : ∀ k, k ∈ g ↔ k ∈ row) : ms = row := by
  have nd : row.Nodup := h₄.imp fun h => by omega
  refine List.Perm.eq_of_pairwise (le := (· ≤ ·)) (fun a b _ _ _ _ => by omega) h₂ (h₄.imp fun h => by omega) (h₁.trans ((List.perm_ext_iff_of_nodup h₃ nd).2 h₅))

theorem Fr.trans {P : Addr → Prop} (h : Fr P H₀ H) (k : Fr P H H') : Fr P H₀ H' := fun a o e n => k a o (h a o e n) n
theorem Fr.rfl {P : Addr → Prop} : Fr P H H := fun _ _ e _ => e
theorem Kn.re {Dn g : List Int} {cur : Int → Nat} (h : Kn x R Dn g cur H₀ H) : Kn x R Dn g cur H H := ⟨h.ex, Fr.rfl⟩
theorem Kn.ext {Dn g : List Int} {cur : Int → Nat} (h : Kn x R Dn g cur H₀ H) (e : Ext H H') : Kn x R Dn g cur H₀ H' := by
  obtain ⟨⟨cnt, np, nf, rl, a, b, c, d, f⟩, k⟩ := h
  exact ⟨⟨cnt, np, nf, rl, a.ext e, e _ _ b, c, d, f⟩, fun p o q r => e _ _ (k p o q r)⟩
theorem Kn.keep {Dn g : List Int} {cur : Int → Nat} (h : Kn x R Dn g cur H₀ H) (h₀ : Kn x R Dn' g' cur' H₁ H₀) {a : Addr} {l : List AV} (ha : H₀ a = some (.list l)) (hn : a ≠ R) : H a = some (.list l) := by
  obtain ⟨⟨cnt, np, nf, rl, o, _⟩, _⟩ := h₀
  exact h.fr _ _ ha (kF_list (x := { x with cnt := cnt, np := np, nf := nf }) o ha hn)

theorem i_add {a b : Int} (h : Q (.int (a + b)) σ) : binW .Add (.int a) (.int b) Q σ := h
theorem b_and {a b : Int} (h : Q (.int (Builtin.bitAnd a b)) σ) : binW .BitAnd (.int a) (.int b) Q σ := h
theorem b_shr {a b : Int} (h₀ : 0 ≤ b) (h : Q (.int (a.fdiv (2 ^ b.toNat))) σ) : binW .RShift (.int a) (.int b) Q σ := ⟨h₀, h⟩
end Mine

end

section
open PySem PySem.W PyProof.Rows PySem.Calls
set_option Elab.async false
set_option backward.match.sparseCases false
set_option maxRecDepth 100000
namespace Mine
variable {T : Tb} {Q : VK} {X : AS → Prop} {F : FK} {σ σ₁ τ : AS} {n : Nat} {ct : CT} {y : Sr} {H H' H₀ : Hp} {R la aa fa : Addr} {E₀ : Int → Int → Prop} {left free : List Int} {ms : List Nat}

end Mine

end

section
open PySem PySem.W PyProof.Rows PySem.Calls
set_option Elab.async false
set_option backward.match.sparseCases false
set_option maxRecDepth 100000
namespace Mine
variable {T : Tb} {Q : VK} {X : AS → Prop} {F : FK} {σ σ₁ τ : AS} {n : Nat} {ct : CT} {x : Sr} {H H' H₀ : Hp} {R la aa fa : Addr} {E₀ : Int → Int → Prop} {left free : List Int} {ms : List Nat}

theorem fmod_bd (a : Int) {s : Int} (hs : 0 < s) : 0 ≤ a.fmod s ∧ a.fmod s < s := by
  rw [Int.fmod_eq_emod_of_nonneg _ (Int.le_of_lt hs)]
  exact ⟨Int.emod_nonneg _ (by omega), Int.emod_lt_of_pos _ hs⟩
theorem i_mod {a b : Int} (h₀ : b ≠ 0) (h : Q (.int (a.fmod b)) σ) : binW .Mod (.int a) (.int b) Q σ := ⟨h₀, h⟩
theorem i_div {a b : Int} (h₀ : b ≠ 0) (h : Q (.int (a.fdiv b)) σ) : binW .FloorDiv (.int a) (.int b) Q σ := ⟨h₀, h⟩
end Mine

end

section
open PySem PySem.W PyProof.Rows PySem.Calls
set_option Elab.async false
set_option backward.match.sparseCases false
set_option maxRecDepth 100000
namespace Mine
variable {T : Tb} {Q : VK} {X : AS → Prop} {F : FK} {σ σ₁ τ : AS} {n : Nat} {ct : CT} {x : Sr} {H H' H₀ : Hp}

theorem flat_bd {α β : Type} {f : α → List β} {c : Nat} : ∀ {l : List α}, (∀ v ∈ l, (f v).length ≤ c) → (l.flatMap f).length ≤ c * l.length
  | [], _ => Nat.zero_le _
  | v :: l, h => by
    rw [List.flatMap_cons, List.length_append, List.length_cons, Nat.mul_succ]
    have := h v (.head _); have := flat_bd (l := l) fun v m => h v (.tail _ m); omega
theorem pre_le {α : Type} {ns pre post : List α} {v : α} (e : ns = pre ++ v :: post) : pre.length < ns.length := by
  rw [e, List.length_append, List.length_cons]; omega
theorem mid_mem {α : Type} {ns pre post : List α} {v : α} (e : ns = pre ++ v :: post) : v ∈ ns := by
  rw [e]; exact List.mem_append.2 (.inr (.head _))

end Mine

end

section
open PySem PySem.W PyProof.Rows PySem.Calls
set_option Elab.async false
set_option backward.match.sparseCases false
set_option maxRecDepth 100000
namespace Mine
variable {T : Tb} {Q : VK} {X : AS → Prop} {F : FK} {σ σ₁ τ : AS} {n : Nat} {ct : CT} {x : Sr} {H H' H₀ : Hp} {g : Int}

theorem bt_name {x : String} {v : AV} {K : AS → Prop} (h : K (τ.set x v)) : bindT (.name x) v K τ := h
theorem cw_nil {fin : List AV → LK → AS → Prop} {acc : List AV} {k : LK} (h : fin acc k τ) : compW T ct [] fin acc k τ := h
theorem set_ne {x y : String} {v : AV} (h : y ≠ x) : (τ.set x v).loc y = τ.loc y := if_neg h
theorem ne_mem {x y : String} {l : List String} (hy : y ∉ l) (hx : x ∈ l) : y ≠ x := fun q => hy (q ▸ hx)
theorem flat_sing {α β : Type} {f : α → β} : ∀ (l : List α), (l.flatMap fun v => [f v]) = l.map f
  | [] => rfl
  | v :: l => by rw [List.flatMap_cons, List.map_cons, flat_sing l]; rfl

end Mine

end

section
open PySem PySem.W PyProof.Rows PySem.Calls
set_option Elab.async false
set_option backward.match.sparseCases false
set_option maxRecDepth 100000
namespace Mine
variable {T : Tb} {Q : VK} {X : AS → Prop} {F : FK} {σ σ₁ τ : AS} {n : Nat} {ct : CT} {x : Sr} {H H' H₀ : Hp} {g : Int}

end Mine

end

section
open PySem PySem.W PyProof.Rows PySem.Calls
set_option Elab.async false
set_option backward.match.sparseCases false
set_option maxRecDepth 100000
namespace Mine
variable {T : Tb} {Q : VK} {X : AS → Prop} {F : FK} {σ σ₁ τ : AS} {n : Nat} {ct : CT} {H H' H₀ : Hp} {r : List MS}

theorem range_mem {N : Nat} {v : Int} : v ∈ rangeL 0 N ↔ 0 ≤ v ∧ v < N := by
  unfold rangeL
  rw [List.mem_map]
  constructor
  · rintro ⟨k, hk, rfl⟩
    have := List.mem_range.1 hk; omega
  · rintro ⟨a, b⟩
    exact ⟨v.toNat, List.mem_range.2 (by omega), by omega⟩
theorem range_len {N : Nat} : (rangeL 0 N).length = N := by
  unfold rangeL; rw [List.length_map, List.length_range]; omega
theorem range_lt {N : Nat} : (rangeL 0 N).Pairwise (· < ·) := by
  unfold rangeL
  rw [List.pairwise_map]
  exact List.pairwise_lt_range.imp fun h => by omega

noncomputable def EE (es : List (Int × Int)) (i j : Int) : Prop := (i, j) ∈ es

end Mine

end

section
open PySem PySem.W PyProof.Rows PySem.Calls
set_option Elab.async false
set_option backward.match.sparseCases false
set_option maxRecDepth 100000
set_option genInjectivity false
namespace Mine
variable {T : Tb} {Q : VK} {X : AS → Prop} {F : FK} {σ σ₁ τ : AS} {n : Nat} {ct : CT} {H H' H₀ : Hp} {r : List MS} {x : Sr}

/-- the cells: eight ints -/
theorem cells_loop {a ca : Addr} {ns cs : List Int} (hn : ns.length < 1000) (l₁ : σ.loc "script" = some (.ref a)) (l₂ : σ.loc "cells" = some (.ref ca)) (h₁ : σ.heap a = some (.script ns)) (h₂ : σ.heap ca = some (.list (cs.map .int))) (hc : cs.length = 8)
    (q : ∀ (τ' : AS) (cs' : List Int), cs'.length = 8 → τ'.heap ca = some (.list (cs'.map .int)) → Fr (· = ca) σ.heap τ'.heap → (∀ z, z ≠ "place" → τ'.loc z = σ.loc z) → execsW T ct r F τ') :
    execsW T ct (.forS (.name "place") (.pcall .range [(.pcall .len [(.var "script")])]) [.augSub (.var "cells") (.bin .Mod (.var "place") (.const (.int 8))) .Add (.sub (.var "script") (.var "place"))] :: r) F σ := by
  have hN : (ns.length : Int).natAbs < 2 ^ 60 := by rw [Int.natAbs_natCast]; omega
  have hac : a ≠ ca := ne_of h₁ h₂ nofun
  refine x_for (w_p1 (w_p1 (w_var l₁ (p_lenS h₁ (by omega) ⟨hN, i_range (by decide) hN ?_⟩))))
  refine for_map (fun _ τ' => ∃ cs' : List Int, cs'.length = 8 ∧ τ'.heap ca = some (.list (cs'.map .int)) ∧ Fr (· = ca) σ.heap τ'.heap ∧ (∀ z, z ≠ "place" → τ'.loc z = σ.loc z)) ⟨cs, hc, h₂, Fr.rfl, fun _ _ => rfl⟩ (fun _ _ _ => trivial) ?_ (by rintro τ ⟨cs', a, b, c, d⟩; exact q τ cs' a b c d)
  rintro pre p post τ K e ⟨cs', hc, hh, fr, lc⟩ hK
  have hp := range_mem.1 (mid_mem e)
  have hl : (cs'.map AV.int).length < 1000000 := by rw [List.length_map]; omega
  obtain ⟨b₁, b₂⟩ := fmod_bd p (s := 8) (by decide)
  have hg : (cs'.map AV.int)[(p.fmod 8).toNat]? = some (.int (cs'.getD (p.fmod 8).toNat 0)) := by
    rw [List.getElem?_map, List.getD_eq_getElem?_getD, List.getElem?_eq_getElem (by omega)]; rfl
  have hs : ns[p.toNat]? = some (ns.getD p.toNat 0) := by
    rw [List.getD_eq_getElem?_getD, List.getElem?_eq_getElem (by omega)]; rfl
  refine bt_name <| x_augS <| w_var ((set_ne (by decide)).trans ((lc _ (by decide)).trans l₂)) <| w_bin <| w_var rfl <| w_const <| i_mod (by decide) <| sub_list hh hl b₁ hg <| w_sub <| w_var ((set_ne (by decide)).trans ((lc _ (by decide)).trans l₁)) <| w_var rfl <| sub_scr (fr _ _ h₁ hac) hp.1 (by omega) hs <| i_add ⟨⟨_, rfl⟩, set_list hh b₁ (by rw [List.length_map]; omega) hl ?_⟩
  refine x_nil (hK .next _ ⟨cs'.set (p.fmod 8).toNat (cs'.getD (p.fmod 8).toNat 0 + ns.getD p.toNat 0), by rw [List.length_set]; exact hc, ?_, fr.ins rfl, fun z hz => (set_ne hz).trans (lc z hz)⟩)
  rw [List.map_set]; exact ins_eq

theorem p_sum {a : Addr} {ns : List Int} (h : σ.heap a = some (.script ns)) (hl : ns.length < 1000000) (q : Q (.int ns.sum) σ) : primW .sum [.ref a] Q σ := ⟨ns, h, hl, q⟩
theorem p_listR {N : Nat} (hN : N < 1000) (q : ∀ b, σ.heap b = none → Q (.ref b) (σ.ins b (.list ((rangeL 0 N).map .int)))) : primW .list [.range 0 (N : Int)] Q σ := ⟨by decide, by rw [Int.natAbs_natCast]; omega, q⟩
theorem p_rng {N : Nat} (hN : N < 1000) (q : Q (.range 0 (N : Int)) σ) : primW .range [.int (N : Int)] Q σ := ⟨by rw [Int.natAbs_natCast]; omega, q⟩
theorem i_rng {N : Nat} (hN : N < 1000) {K : (AS → Prop) → List AV → Prop} (k : K (fun _ => True) ((rangeL 0 N).map .int)) : iterW (.range 0 (N : Int)) K σ := i_range (by decide) (by rw [Int.natAbs_natCast]; omega) k

end Mine

end

section
open PySem PySem.W PyProof.Rows PySem.Calls
set_option Elab.async false
set_option backward.match.sparseCases false
set_option maxRecDepth 100000
namespace Mine
noncomputable def toldF : Fn := ⟨["names", "steps"], none, [], [
  .assign (.name "sorter") (.ncall 137 []),
  .forS (.name "name") (.var "names") [
    .expr (.meth (.var "sorter") "add" [(.var "name")])],
  .forS (.tup ["first", "second"]) (.var "steps") [
    .expr (.meth (.var "sorter") "add" [(.var "second"), (.var "first")])],
  .ret (.var "sorter")]⟩
noncomputable def unmetF : Fn := ⟨["demands", "held"], none, [], [
  .ret (.comp ["one", "other"] (.var "one") (.tup ["one", "other"]) (.var "demands") [(.and [(.cmp .NotIn (.var "one") (.var "held")), (.cmp .NotIn (.var "other") (.var "held"))])] [])]⟩
structure Lib2 (T : Tb) : Prop extends Lib T where
  f_told : T.fn 148 = some toldF
  f_unmet : T.fn 153 = some unmetF
variable {T : Tb} {Q : VK} {X : AS → Prop} {F : FK} {σ σ₁ τ : AS} {n : Nat} {ct : CT} {x : Sr} {H H' H₀ : Hp}

/-- a sorter of names and steps -/
theorem told_spec (L : Lib2 T) {na sa : Addr} {ns : List Int} {es : List (Int × Int)} (hn : σ.heap na = some (.list (ns.map .int))) (he : σ.heap sa = some (.list (es.map pairOf))) (nd : ns.Nodup) (nl : ns.length < 100) (el : es.length < 100)
    (hes : ∀ e ∈ es, e.1 ∈ ns ∧ e.2 ∈ ns)
    (q : ∀ H' y, Bt σ.heap y H' → y.ks = ns → (∀ i j, j ∈ y.suc i ↔ (i, j) ∈ es) → (∀ i, (y.suc i).length ≤ es.length) → Q (.ref y.s) ⟨σ.loc, H'⟩) :
    callW T (n + 4) 148 [.ref na, .ref sa] Q X σ := by
  refine x_def L.f_told rfl (x_asg (new_bt L.toLib fun x H₁ hx hxk hxs => ?_))
  refine x_for (w_var rfl (i_list (hx.ext _ _ hn) ?_))
  refine tell_names L.toLib (n := n) (H₀ := σ.heap) (x := x) (ns := ns) nd (by omega) hx hxk hxs rfl (fun τ e => e _ _ hn) fun τ y hy yk ys yx lc => ?_
  refine x_for (w_var (lc "steps" (by decide)) (i_list (hy.ext _ _ he) ?_))
  have o : τ.loc "sorter" = some (.ref y.s) := by rw [lc "sorter" (by decide), yx]; rfl
  refine tell_steps L.toLib (n := n) (H₀ := σ.heap) (x := y) (es := es) (fun e m => by rw [yk]; exact hes e m) (by omega) hy ys o (fun τ e => e _ _ he) fun τ' z hz zk zm zl zx lc' => ?_
  have o' : τ'.loc "sorter" = some (.ref z.s) := by rw [lc' "sorter" (by decide) (by decide), o, zx]
  exact x_ret (w_var o' (q _ z hz (zk.trans yk) zm zl))

/-- the demands that are not met -/
noncomputable def unmet (ds : List (Int × Int)) (held : List Int) : List Int := (ds.filter fun p => !decide (p.1 ∈ held) && !decide (p.2 ∈ held)).map (·.1)

theorem unmet_spec (L : Lib2 T) {da ha : Addr} {ds : List (Int × Int)} {hs : List Int} (hd : σ.heap da = some (.list (ds.map pairOf))) (hh : σ.heap ha = some (.list (hs.map .int))) (dl : ds.length < 1000) (hl : hs.length < 1000)
    (q : ∀ H' b, σ.heap b = none → Ext σ.heap H' → H' b = some (.list ((unmet ds hs).map .int)) → Q (.ref b) ⟨σ.loc, H'⟩) :
    callW T (n + 1) 153 [.ref da, .ref ha] Q X σ := by
  refine x_def L.f_unmet rfl (x_ret (w_comp (w_var rfl (i_list hd ?_))))
  refine lp_gen (ns := ds) (g := pairOf) (σ₁ := ⟨fun x => [("demands", AV.ref da), ("held", AV.ref ha)].lookup x, σ.heap⟩) (vs := ["one", "other"]) (fun p => if (!decide (p.1 ∈ hs) && !decide (p.2 ∈ hs)) then [AV.int p.1] else []) (fun τ e => e _ _ hd) ?_ ?_
  · rintro pre ⟨a, b⟩ post τ k e h₁ h₂ hk
    have lh : τ.loc "held" = some (.ref ha) := h₂ "held" (by decide)
    have hp : (pre.flatMap fun p => if (!decide (p.1 ∈ hs) && !decide (p.2 ∈ hs)) then [AV.int p.1] else []).length < 1000000 := by
      have := flat_len (f := fun p : Int × Int => if (!decide (p.1 ∈ hs) && !decide (p.2 ∈ hs)) then [AV.int p.1] else []) (fun v => by split <;> simp) pre
      have := pre_le e; omega
    have lk : ∀ y, y ∉ ["one", "other"] → ((τ.set "one" (.int a)).set "other" (.int b)).loc y = (fun x => [("demands", AV.ref da), ("held", AV.ref ha)].lookup x) y := fun y hy =>
      (set_ne (by rintro rfl; exact hy (by decide))).trans ((set_ne (by rintro rfl; exact hy (by decide))).trans (h₂ y hy))
    refine ⟨[.int a, .int b], rfl, rfl, ?_⟩
    show condsW T _ _ _ ((τ.set "one" (.int a)).set "other" (.int b))
    refine cs_one (c_and (cs_cons (c_cmp (w_var rfl (w_var lh (notin_c (in_list (h₁ _ _ hh) (by omega) (ifB (fun h => ?_) fun h => ?_))))))))
    · refine cs_one (c_cmp (w_var rfl (w_var lh (notin_c (in_list (h₁ _ _ hh) (by omega) ?_)))))
      have := hk ((τ.set "one" (.int a)).set "other" (.int b)) h₁ lk
      cases h' : decide (b ∈ hs) with
      | true => 
        rw [if_neg (by simp [h']), List.append_nil] at this
        exact ifF this
      | false =>
        rw [if_pos (by rw [h, h']; rfl)] at this
        exact ifT ⟨_, rfl, hp, this⟩
    · have := hk ((τ.set "one" (.int a)).set "other" (.int b)) h₁ lk
      rw [if_neg (by simp [h]), List.append_nil] at this
      exact ifF this
  · intro τ h₁ a ha
    rw [flat_if]
    refine q _ a (h₁.none ha) (h₁.ins (h₁.none ha)) ?_
    exact ins_eq.trans (by rw [unmet, List.map_map]; rfl)
end Mine

end

section
open PySem PySem.W PyProof.Rows PySem.Calls
set_option Elab.async false
set_option backward.match.sparseCases false
set_option maxRecDepth 100000
namespace Mine

/-- what a sign stands under -/
noncomputable def stf (st : List Int) (v : Int) : Int := st.getD v.toNat 0
structure StOk (es : List (Int × Int)) (N : Nat) (st : List Int) : Prop where
  len : st.length = N
  rng : ∀ v ∈ rangeL 0 N, stf st v ∈ rangeL 0 N
  idem : ∀ v ∈ rangeL 0 N, stf st (stf st v) = stf st v
  mr : ∀ v ∈ rangeL 0 N, MR (EE es) v (stf st v)
noncomputable def reps (st : List Int) (N : Nat) : List Int := (rangeL 0 N).filter fun v => stf st v == v
noncomputable def toldL (st : List Int) (es : List (Int × Int)) : List (Int × Int) := (es.filter fun p => stf st p.1 != stf st p.2).map fun p => (stf st p.1, stf st p.2)
variable {es : List (Int × Int)} {N : Nat} {st : List Int} {u v w m : Int} {mid : List Int}

theorem reps_mem : v ∈ reps st N ↔ v ∈ rangeL 0 N ∧ stf st v = v := by
  unfold reps; rw [List.mem_filter, beq_iff_eq]
theorem reps_lt : (reps st N).Pairwise (· < ·) := range_lt.sublist List.filter_sublist
theorem reps_nd : (reps st N).Nodup := reps_lt.imp fun h => by omega
theorem reps_len : (reps st N).length ≤ N := by
  have := List.length_filter_le (fun v => stf st v == v) (rangeL 0 N); rw [range_len] at this; exact this
theorem toldL_mem : (u, v) ∈ toldL st es ↔ ∃ a b, (a, b) ∈ es ∧ stf st a ≠ stf st b ∧ u = stf st a ∧ v = stf st b := by
  unfold toldL
  rw [List.mem_map]
  constructor
  · rintro ⟨⟨a, b⟩, h, e⟩
    rw [List.mem_filter] at h
    cases e
    exact ⟨a, b, h.1, by simpa using h.2, rfl, rfl⟩
  · rintro ⟨a, b, h, n, rfl, rfl⟩
    exact ⟨(a, b), List.mem_filter.2 ⟨h, by simpa using n⟩, rfl⟩
theorem toldL_len : (toldL st es).length ≤ es.length := by
  unfold toldL; rw [List.length_map]; exact List.length_filter_le ..
theorem stf_range (h : v ∈ rangeL 0 N) : stf ((rangeL 0 N)) v = v := by
  have ⟨a, b⟩ := range_mem.1 h
  unfold stf
  rw [List.getD_eq_getElem?_getD, rangeL, List.getElem?_map, List.getElem?_range (by omega)]
  show (0 : Int) + (v.toNat : Nat) = v
  omega
theorem st_start : StOk es N (rangeL 0 N) :=
  ⟨range_len, fun v h => by rw [stf_range h]; exact h, fun v h => by rw [stf_range h, stf_range h], fun v h => .inl (stf_range h).symm⟩

/-- the signs of the steps are signs -/
def In (es : List (Int × Int)) (N : Nat) : Prop := ∀ e ∈ es, e.1 ∈ rangeL 0 N ∧ e.2 ∈ rangeL 0 N

theorem StOk.told_in (h : StOk es N st) (hi : In es N) : ∀ e ∈ toldL st es, e.1 ∈ reps st N ∧ e.2 ∈ reps st N := by
  rintro ⟨u, v⟩ m
  obtain ⟨a, b, k, _, rfl, rfl⟩ := toldL_mem.1 m
  have := hi _ k
  exact ⟨reps_mem.2 ⟨h.rng _ this.1, h.idem _ this.1⟩, reps_mem.2 ⟨h.rng _ this.2, h.idem _ this.2⟩⟩

/-- the steps between those that stand -/
noncomputable def DD (st : List Int) (es : List (Int × Int)) (i j : Int) : Prop := (i, j) ∈ toldL st es
theorem StOk.d_rch (h : StOk es N st) (hi : In es N) (d : DD st es u v) : Rch (EE es) u v := by
  obtain ⟨a, b, k, _, rfl, rfl⟩ := toldL_mem.1 d
  have := hi _ k
  have h₁ : Rch (EE es) (stf st a) b := by
    rcases h.mr a this.1 with q | q
    · rw [← q]; exact .one k
    · exact q.2.snoc k
  rcases h.mr b this.2 with q | q
  · rw [← q]; exact h₁
  · exact h₁.trans q.1
theorem StOk.ring_mr (h : StOk es N st) (hi : In es N) (p : Pth (DD st es) v (mid ++ [v])) (hu : u ∈ v :: mid) : MR (EE es) v u := by
  rcases List.mem_cons.1 hu with rfl | hu
  · exact .inl rfl
  · have := pth_mid p hu
    exact .inr ⟨this.1.bind fun i j d => h.d_rch hi d, this.2.bind fun i j d => h.d_rch hi d⟩
theorem ring_two (p : Pth (DD st es) v (mid ++ [v])) : mid ≠ [] := by
  rintro rfl
  obtain ⟨a, b, _, n, e₁, e₂⟩ := toldL_mem.1 p.1
  exact n (e₁.symm.trans e₂)

noncomputable def melt (st ring : List Int) (m : Int) : List Int := st.map fun x => if x ∈ ring then m else x
theorem stf_melt {ring : List Int} (h : v ∈ rangeL 0 N) (hl : st.length = N) : stf (melt st ring m) v = if stf st v ∈ ring then m else stf st v := by
  have ⟨a, b⟩ := range_mem.1 h
  unfold stf melt
  rw [List.getD_eq_getElem?_getD, List.getD_eq_getElem?_getD, List.getElem?_map, List.getElem?_eq_getElem (by omega)]
  rfl
theorem StOk.melt (h : StOk es N st) (hi : In es N) (p : Pth (DD st es) v (mid ++ [v])) (hk : ∀ k ∈ v :: mid, k ∈ reps st N) (nd : (v :: mid).Nodup) {ring : List Int} (hr : ∀ x, x ∈ ring ↔ x ∈ v :: mid) (hm : m ∈ ring) :
    StOk es N (melt st ring m) ∧ (reps (Mine.melt st ring m) N).length < (reps st N).length := by
  have mk := hk m ((hr m).1 hm)
  have ⟨mk₁, mk₂⟩ := reps_mem.1 mk
  have hl := h.len
  have s₁ : stf (Mine.melt st ring m) m = m := by rw [stf_melt mk₁ hl, mk₂, if_pos hm]
  refine ⟨⟨(List.length_map ..).trans hl, fun w hw => ?_, fun w hw => ?_, fun w hw => ?_⟩, ?_⟩
  · rw [stf_melt hw hl]; split
    · exact mk₁
    · exact h.rng w hw
  · rw [stf_melt hw hl]
    by_cases q : stf st w ∈ ring
    · rw [if_pos q, s₁]
    · rw [if_neg q, stf_melt (h.rng w hw) hl, h.idem w hw, if_neg q]
  · rw [stf_melt hw hl]
    by_cases q : stf st w ∈ ring
    · rw [if_pos q]
      exact ((h.mr w hw).trans (h.ring_mr hi p ((hr _).1 q)).symm).trans (h.ring_mr hi p ((hr m).1 hm))
    · rw [if_neg q]; exact h.mr w hw
  · obtain ⟨r, r₁, r₂⟩ : ∃ r ∈ v :: mid, r ≠ m := by
      have ⟨n₁, n₂⟩ := List.nodup_cons.1 nd
      by_cases q : v = m
      · cases e : mid with
        | nil => exact absurd e (ring_two p)
        | cons a l => exact ⟨a, .tail _ (.head _), fun z => n₁ (by rw [q, ← z, e]; exact .head _)⟩
      · exact ⟨v, .head _, q⟩
    have hr₁ := reps_mem.1 (hk r r₁)
    have hn : r ∉ reps (Mine.melt st ring m) N := fun z => by
      have := (reps_mem.1 z).2
      rw [stf_melt hr₁.1 hl, hr₁.2, if_pos ((hr r).2 r₁)] at this
      exact r₂ this.symm
    have := (List.nodup_cons.2 ⟨hn, reps_nd⟩).length_le_of_subset (l₂ := reps st N) fun k hk' => by
      rcases List.mem_cons.1 hk' with rfl | hk'
      · exact hk _ r₁
      · have ⟨a, b⟩ := reps_mem.1 hk'
        rw [stf_melt a hl] at b
        by_cases q : stf st k ∈ ring
        · rw [if_pos q] at b; exact b ▸ mk
        · rw [if_neg q] at b; exact reps_mem.2 ⟨a, b⟩
    rw [List.length_cons] at this
    omega
end Mine

end

section
open PySem PySem.W PyProof.Rows PySem.Calls
set_option Elab.async false
set_option backward.match.sparseCases false
set_option maxRecDepth 100000
namespace Mine
variable {T : Tb} {Q : VK} {X : AS → Prop} {F : FK} {σ σ₁ τ : AS} {n N : Nat} {ct : CT} {x : Sr} {H H' H₀ : Hp} {st : List Int} {es : List (Int × Int)} {ta sa b : Addr} {v m : Int} {mid : List Int}

theorem st_sub (h : τ.heap ta = some (.list (st.map .int))) (hl : st.length = N) (hN : N < 1000) (hv : v ∈ rangeL 0 N) (q : Q (.int (stf st v)) τ) : subW (.ref ta) (.int v) Q τ := by
  have ⟨a, b⟩ := range_mem.1 hv
  refine sub_list h (by rw [List.length_map]; omega) a ?_ q
  rw [List.getElem?_map, stf, List.getD_eq_getElem?_getD, List.getElem?_eq_getElem (by omega)]; rfl

theorem w_reps (ls : σ.loc "stands" = some (.ref ta)) (lm : σ.loc "many" = some (.int N)) (hs : σ.heap ta = some (.list (st.map .int))) (hl : st.length = N) (hN : N < 1000)
    (q : ∀ a H', σ.heap a = none → H' a = some (.list ((reps st N).map .int)) → Ext σ.heap H' → Q (.ref a) ⟨σ.loc, H'⟩) :
    evalW T ct (.comp ["name"] (.var "name") (.name "name") (.pcall .range [(.var "many")]) [(.cmp .Eq (.sub (.var "stands") (.var "name")) (.var "name"))] []) Q σ := by
  refine w_filterR (x := "name") (fun v => stf st v == v) lm (by omega) (fun v hv σ' K e lk lv k => ?_) q
  exact cs_one (c_cmp (w_sub (w_var ((lk "stands" (by decide)).trans ls) (w_var lv (st_sub (e _ _ hs) hl hN hv (w_var lv (eq_int (k _ Ext.rfl))))))))

theorem w_told (ls : σ.loc "stands" = some (.ref ta)) (lo : σ.loc "steps" = some (.ref sa)) (hs : σ.heap ta = some (.list (st.map .int))) (he : σ.heap sa = some (.list (es.map pairOf))) (hl : st.length = N) (hN : N < 1000) (hi : In es N) (el : es.length < 1000)
    (q : ∀ a H', σ.heap a = none → H' a = some (.list ((toldL st es).map pairOf)) → Ext σ.heap H' → Q (.ref a) ⟨σ.loc, H'⟩) :
    evalW T ct (.comp ["a", "b"] (.tup [(.sub (.var "stands") (.var "a")), (.sub (.var "stands") (.var "b"))]) (.tup ["a", "b"]) (.var "steps") [(.cmp .NotEq (.sub (.var "stands") (.var "a")) (.sub (.var "stands") (.var "b")))] []) Q σ := by
  refine w_comp (w_var lo (i_list he (lp_gen (σ₁ := σ) (fun p => if stf st p.1 != stf st p.2 then [pairOf (stf st p.1, stf st p.2)] else []) (fun τ e => e _ _ he) ?_ ?_)))
  · rintro pre ⟨u, w⟩ post τ k e h₁ h₂ hk
    have hp : (pre.flatMap fun p : Int × Int => if stf st p.1 != stf st p.2 then [pairOf (stf st p.1, stf st p.2)] else []).length < 1000000 := by
      have := flat_len (f := fun p : Int × Int => if stf st p.1 != stf st p.2 then [pairOf (stf st p.1, stf st p.2)] else []) (fun v => by split <;> simp) pre
      have := pre_le e; omega
    have hm := hi _ (mid_mem e)
    refine ⟨[.int u, .int w], rfl, rfl, ?_⟩
    have r₃ : ∀ y, y ∉ ["a", "b"] → ((τ.set "a" (AV.int u)).set "b" (AV.int w)).loc y = σ.loc y := fun y hy => (set_ne (ne_mem hy (.tail _ (.head _)))).trans ((set_ne (ne_mem hy (.head _))).trans (h₂ y hy))
    have hk' := hk ((τ.set "a" (AV.int u)).set "b" (AV.int w)) h₁ r₃
    have l₁ := (r₃ "stands" (by decide)).trans ls
    have sb : ∀ {v : Int} {Q : VK}, v ∈ rangeL 0 N → Q (.int (stf st v)) ((τ.set "a" (AV.int u)).set "b" (AV.int w)) → subW (.ref ta) (.int v) Q ((τ.set "a" (AV.int u)).set "b" (AV.int w)) := fun hv q => st_sub (τ := (τ.set "a" (AV.int u)).set "b" (AV.int w)) (h₁ _ _ hs) hl hN hv q
    refine cs_one <| c_cmp <| w_sub <| w_var l₁ <| w_var rfl <| sb hm.1 <| w_sub <| w_var l₁ <| w_var rfl <| sb hm.2 <| ne_int <| ifB (fun a => ?_) fun a => ?_
    · rw [if_pos (show (stf st u != stf st w) = true from a)] at hk'
      exact cw_nil <| w_tup (ws_cons (w_sub (w_var l₁ (w_var rfl (sb hm.1 (ws_cons (w_sub (w_var l₁ (w_var rfl (sb hm.2 (ws_nil ⟨hp, hk'⟩)))))))))))
    · rw [if_neg (show ¬ (stf st u != stf st w) = true by rw [bne, a]; simp), List.append_nil] at hk'
      exact hk'
  · intro τ e a ha
    rw [flat_if]
    refine q a _ (e.none ha) (ins_eq.trans ?_) (e.ins (e.none ha))
    rw [toldL, List.map_map]; rfl

theorem w_melt {ring : List Int} (ls : σ.loc "stands" = some (.ref ta)) (lr : σ.loc "ring" = some (.ref b)) (hs : σ.heap ta = some (.list (st.map .int))) (hr : σ.heap b = some (.list (ring.map .int))) (hl : st.length < 1000) (rl : ring.length < 1000)
    (hm : m ∈ ring) (hm' : ∀ j ∈ ring, m ≤ j)
    (q : ∀ a H', σ.heap a = none → H' a = some (.list ((melt st ring m).map .int)) → Ext σ.heap H' → Q (.ref a) ⟨σ.loc, H'⟩) :
    evalW T ct (.comp ["name"] (.ife (.cmp .In (.var "name") (.var "ring")) (.pcall .min [(.var "ring")]) (.var "name")) (.name "name") (.var "stands") [] []) Q σ := by
  refine w_comp (w_var ls (i_list hs (lp_gen (σ₁ := σ) (fun v => [AV.int (if v ∈ ring then m else v)]) (fun τ e => e _ _ hs) ?_ ?_)))
  · intro pre v post τ k e h₁ h₂ hk
    have hp : (pre.flatMap fun v => [AV.int (if v ∈ ring then m else v)]).length < 1000000 := by
      have := flat_len (f := fun v => [AV.int (if v ∈ ring then m else v)]) (fun v => by simp) pre
      have := pre_le e; omega
    have r₃ : ∀ y, y ∉ ["name"] → (τ.set "name" (AV.int v)).loc y = σ.loc y := fun y hy => (set_ne (ne_mem hy (.head _))).trans (h₂ y hy)
    have hk' := hk (τ.set "name" (AV.int v)) h₁ r₃
    have l₁ := (r₃ "ring" (by decide)).trans lr
    refine bt_name (cs_nil (ifT (cw_nil (w_ife (c_cmp (w_var rfl (w_var l₁ (in_c (in_list (h₁ _ _ hr) (by omega) (ifB (fun h => ?_) fun h => ?_))))))))))
    · have h := of_decide_eq_true h
      rw [if_pos h] at hk'
      refine w_p1 (w_var l₁ ⟨ring, ⟨h₁ _ _ hr, by omega⟩, List.ne_nil_of_mem hm, fun k' hk₁ hk₂ => ?_⟩)
      have : k' = m := by have := hk₂ m hm; have := hm' k' hk₁; omega
      subst this
      exact ⟨hp, hk'⟩
    · have h := of_decide_eq_false h
      rw [if_neg h] at hk'
      exact w_var rfl ⟨hp, hk'⟩
  · intro τ e a ha
    rw [flat_sing]
    refine q a _ (e.none ha) (ins_eq.trans ?_) (e.ins (e.none ha))
    rw [melt, List.map_map]; rfl

theorem cut_1 {a : AV} {l : List AV} : cutL (a :: l) none (some 1) = [a] := by
  unfold cutL
  have : max 0 (min (if (1 : Int) < 0 then 1 + ((a :: l).length : Int) else 1) ((a :: l).length : Int)) = 1 := by rw [if_neg (by decide), List.length_cons]; omega
  simp only [this]; rfl
theorem cut_m1 {a : AV} {l : List AV} : cutL (l ++ [a]) (some (-1)) none = [a] := by
  unfold cutL
  have : max 0 (min (if (-1 : Int) < 0 then -1 + ((l ++ [a]).length : Int) else -1) ((l ++ [a]).length : Int)) = (l.length : Int) := by rw [if_pos (by decide), List.length_append, List.length_singleton]; omega
  simp only [this]
  rw [Int.toNat_natCast, List.drop_left, List.length_append, List.length_singleton, List.take_of_length_le]
  rw [List.length_singleton]; omega

variable {K : Bool → AS → Prop}
theorem ring_chk1 (lr : σ.loc "ring" = some (.ref b)) (hr : σ.heap b = some (.list ((v :: mid ++ [v]).map .int))) (hl : mid.length < 1000) (k : ∀ H', Ext σ.heap H' → K false ⟨σ.loc, H'⟩) :
    condW T ct (.or [(.not (.plain (.pcall .isinstance [(.var "ring"), (.gl "list" (.val (.type "list")))]))), (.cmp .NotEq (.slice (.var "ring") none (some (.const (.int 1)))) (.slice (.var "ring") (some (.neg (.const (.int 1)))) none))]) K σ := by
  have hll : ((v :: mid ++ [v]).map AV.int).length < 1000000 := by rw [List.length_map, List.length_append, List.length_cons, List.length_singleton]; omega
  refine c_or (co_cons (c_not (c_plain (w_p2 (w_var lr (w_gl ⟨rfl, _, hr, ?_⟩))))))
  refine t_bool (ifF ?_)
  refine co_cons (c_cmp (w_sl2 (w_var lr (w_const ⟨b, _, none, some 1, rfl, hr, hll, rfl, rfl, fun b₁ h₁ => ?_⟩))))
  refine w_sl1 (w_var lr (w_neg (w_const ⟨1, rfl, ⟨b, _, some (-1), none, rfl, ins_fresh hr h₁, hll, rfl, rfl, fun b₂ h₂ => ?_⟩⟩)))
  have c₁ : cutL ((v :: mid ++ [v]).map AV.int) none (some 1) = [v].map AV.int := by rw [List.cons_append, List.map_cons]; exact cut_1
  have c₂ : cutL ((v :: mid ++ [v]).map AV.int) (some (-1)) none = [v].map AV.int := by rw [List.map_append]; exact cut_m1
  rw [c₁] at h₂ ⊢
  rw [c₂]
  refine ne_refs (ns := [v]) (ms := [v]) ⟨ins_fresh ins_eq h₂, by simp⟩ ⟨ins_eq, by simp⟩ ?_
  rw [decide_eq_true rfl]
  exact ifF (co_nil (k _ ((Ext.ins' h₁).ins ((Ext.ins' h₁).none h₂))))
end Mine

end

section
open PySem PySem.W PyProof.Rows PySem.Calls
set_option Elab.async false
set_option backward.match.sparseCases false
set_option maxRecDepth 100000
namespace Mine
variable {T : Tb} {Q : VK} {X : AS → Prop} {F : FK} {σ σ₁ τ : AS} {n N : Nat} {ct : CT} {x : Sr} {H H' H₀ : Hp} {st : List Int} {es : List (Int × Int)} {ta sa b : Addr} {v m : Int} {mid : List Int} {K : Bool → AS → Prop}

theorem int_sub {rg : List Int} {a : Addr} {k : Int} (h : τ.heap a = some (.list (rg.map .int))) (hl : rg.length < 1000000) (h0 : 0 ≤ k) (hk : k.toNat < rg.length) (q : Q (.int (rg.getD k.toNat 0)) τ) : subW (.ref a) (.int k) Q τ := by
  refine sub_list h (by rw [List.length_map]; omega) h0 ?_ q
  rw [List.getElem?_map, List.getD_eq_getElem?_getD, List.getElem?_eq_getElem hk]; rfl
theorem i_sub {a b : Int} (h : Q (.int (a - b)) σ) : binW .Sub (.int a) (.int b) Q σ := h
theorem b_count {a : Addr} {ns : List Int} {k : Int} (hl : ns.length < 1000000) (q : Q (.int (ns.count k : Nat)) σ) : biMethW a (.list (ns.map .int)) "count" [.int k] Q σ := ⟨by rw [List.length_map]; exact hl, k, ns, rfl, rfl, q⟩
theorem b_index {a : Addr} {ns : List Int} {k : Int} (hl : ns.length < 1000000) (hk : k ∈ ns) (q : Q (.int (ns.idxOf k : Nat)) σ) : biMethW a (.list (ns.map .int)) "index" [.int k] Q σ := ⟨by rw [List.length_map]; exact hl, k, ns, rfl, rfl, hk, q⟩
theorem in_pair {a : Addr} {ps : List (Int × Int)} {i j : Int} {K : Bool → Prop} (h : σ.heap a = some (.list (ps.map pairOf))) (hl : ps.length < 1000000) (k : K (decide ((i, j) ∈ ps))) : inW (.tup [.int i, .int j]) (.ref a) K σ := ⟨ps, h, hl, k⟩

theorem ring_cut (hr : σ.heap b = some (.list ((v :: mid ++ [v]).map .int))) (hl : mid.length < 1000) (lr : σ.loc "ring" = some (.ref b))
    (q : ∀ a, σ.heap a = none → Q (.ref a) (σ.ins a (.list ((mid ++ [v]).map .int)))) : evalW T ct (.slice (.var "ring") (some (.const (.int 1))) none) Q σ := by
  have hll : ((v :: mid ++ [v]).map AV.int).length < 1000000 := by rw [List.length_map, List.length_append, List.length_cons, List.length_singleton]; omega
  refine w_sl1 (w_var lr (w_const ⟨b, _, some 1, none, rfl, hr, hll, rfl, rfl, fun b₁ h₁ => ?_⟩))
  have c : cutL ((v :: mid ++ [v]).map AV.int) (some 1) none = (mid ++ [v]).map AV.int := by
    have := cut_from (l := (v :: mid ++ [v]).map AV.int) (pos := 1) (by rw [List.length_map, List.length_append, List.length_cons]; omega)
    exact this
  rw [c]
  exact q _ h₁

theorem ring_chk2 (lr : σ.loc "ring" = some (.ref b)) (hr : σ.heap b = some (.list ((v :: mid ++ [v]).map .int))) (hl : mid.length < 1000) (nd : (v :: mid).Nodup) (k : ∀ H', Ext σ.heap H' → K false ⟨σ.loc, H'⟩) :
    condW T ct (.cmp .NotEq (.comp ["name"] (.var "name") (.name "name") (.slice (.var "ring") (some (.const (.int 1))) none) [(.cmp .NotEq (.meth (.slice (.var "ring") (some (.const (.int 1))) none) "count" [(.var "name")]) (.const (.int 1)))] []) (.list [])) K σ := by
  refine c_cmp (w_comp (ring_cut hr hl lr fun a ha => i_list ins_eq ?_))
  have hml : (mid ++ [v]).length < 1000000 := by rw [List.length_append, List.length_singleton]; omega
  refine lp_filter (x := "name") (Q := fun v σ₂ => evalW T ct (.list []) (fun b σ₃ => cmpW .NotEq v b (fun c => K c σ₃) σ₃) σ₂) (σ₁ := σ.ins a (.list ((mid ++ [v]).map .int))) (fun w => !(((mid ++ [v]).count w : Nat) : Int) == 1) hml (fun _ e => e _ _ ins_eq) ?_ ?_
  · intro w hw τ K e lk lv k
    have hr' := e _ _ (ins_fresh hr ha)
    refine cs_one (c_cmp (w_m1 (ring_cut hr' hl ((lk "ring" (by decide)).trans lr) fun c hc => cal_list ins_eq (by simp) (w_var lv ⟨_, ins_eq, b_count hml (w_const (ne_int (k _ (Ext.ins' hc))))⟩))))
  · intro c H' hc hc' e
    have ef : (mid ++ [v]).filter (fun w => !(((mid ++ [v]).count w : Nat) : Int) == 1) = [] := by
      have nd' : (mid ++ [v]).Nodup := (List.perm_append_singleton v mid).nodup_iff.2 nd
      refine List.filter_eq_nil_iff.2 fun w hw => ?_
      rw [nd'.count, if_pos hw]; decide
    rw [ef] at hc'
    refine w_list (ws_nil fun d hd => ne_refs (ns := []) (ms := []) ⟨ins_fresh hc' hd, by decide⟩ ⟨ins_eq, by decide⟩ ?_)
    rw [decide_eq_true rfl]
    exact k _ (((Ext.ins' ha).trans e).ins (((Ext.ins' ha).trans e).none hd))

theorem Pth.get {D : Int → Int → Prop} : ∀ {l : List Int} {a : Int}, Pth D a l → ∀ i, i < l.length → D ((a :: l).getD i 0) ((a :: l).getD (i + 1) 0)
  | b :: l, a, h, 0, _ => h.1
  | b :: l, a, h, i + 1, hi => h.2.get i (by rw [List.length_cons] at hi; omega)

theorem ring_chk3 {oa : Addr} {ps : List (Int × Int)} (lr : σ.loc "ring" = some (.ref b)) (lo : σ.loc "told" = some (.ref oa)) (hr : σ.heap b = some (.list ((v :: mid ++ [v]).map .int))) (ho : σ.heap oa = some (.list (ps.map pairOf))) (hl : mid.length < 1000) (pl : ps.length < 1000) (p : Pth (fun i j => (i, j) ∈ ps) v (mid ++ [v])) (k : ∀ H', Ext σ.heap H' → K false ⟨σ.loc, H'⟩) :
    condW T ct (.cmp .NotEq (.comp ["k"] (.var "k") (.name "k") (.pcall .range [(.const (.int 1)), (.pcall .len [(.var "ring")])]) [(.cmp .NotIn (.tup [(.sub (.var "ring") (.bin .Sub (.var "k") (.const (.int 1)))), (.sub (.var "ring") (.var "k"))]) (.var "told"))] []) (.list [])) K σ := by
  have hrl : (v :: mid ++ [v]).length = mid.length + 2 := by rw [List.length_append, List.length_cons, List.length_singleton]
  have hll : ((v :: mid ++ [v]).map AV.int).length < 1000000 := by rw [List.length_map]; omega
  have hlen : ((((v :: mid ++ [v]).map AV.int).length : Nat) : Int) = ((mid.length + 2 : Nat) : Int) := by rw [List.length_map, hrl]
  refine c_cmp (w_comp (w_p2 (w_const (w_p1 (w_var lr (p_lenL hr hll ?_))))))
  rw [hlen]
  have hN : ((mid.length + 2 : Nat) : Int).natAbs < 2 ^ 60 := by rw [Int.natAbs_natCast]; omega
  refine ⟨by decide, hN, i_range (by decide) hN ?_⟩
  have hm : ∀ w ∈ rangeL 1 ((mid.length + 2 : Nat) : Int), 1 ≤ w ∧ w < ((mid.length + 2 : Nat) : Int) := fun w hw => by
    unfold rangeL at hw
    obtain ⟨j, hj, rfl⟩ := List.mem_map.1 hw
    have := List.mem_range.1 hj; omega
  have hrgl : (rangeL 1 ((mid.length + 2 : Nat) : Int)).length < 1000000 := by unfold rangeL; rw [List.length_map, List.length_range]; omega
  refine lp_filter (x := "k") (Q := fun v σ₂ => evalW T ct (.list []) (fun b σ₃ => cmpW .NotEq v b (fun c => K c σ₃) σ₃) σ₂) (σ₁ := σ) (fun w => !decide (((v :: mid ++ [v]).getD (w - 1).toNat 0, (v :: mid ++ [v]).getD w.toNat 0) ∈ ps)) hrgl (fun _ _ => trivial) ?_ ?_
  · intro w hw τ K e lk lv k
    have hw := hm w hw
    have l₁ := (lk "ring" (by decide)).trans lr
    have l₂ := (lk "told" (by decide)).trans lo
    have hr' := e _ _ hr
    refine cs_one <| c_cmp <| w_tup <| ws_cons <| w_sub <| w_var l₁ <| w_bin <| w_var lv <| w_const <| i_sub <| int_sub hr' (by omega) (by omega) (by omega) <| ws_cons <| w_sub <| w_var l₁ <| w_var lv <| int_sub hr' (by omega) (by omega) (by omega) <| ws_nil <| w_var l₂ <| notin_c <| in_pair (e _ _ ho) (by omega) (k _ Ext.rfl)
  · intro c H' hc hc' e
    have ef : (rangeL 1 ((mid.length + 2 : Nat) : Int)).filter (fun w => !decide (((v :: mid ++ [v]).getD (w - 1).toNat 0, (v :: mid ++ [v]).getD w.toNat 0) ∈ ps)) = [] := by
      refine List.filter_eq_nil_iff.2 fun w hw => ?_
      have hw := hm w hw
      have := p.get (w - 1).toNat (by rw [List.length_append, List.length_singleton]; omega)
      rw [show (w - 1).toNat + 1 = w.toNat by omega] at this
      rw [List.cons_append, decide_eq_true this]; decide
    rw [ef] at hc'
    refine w_list (ws_nil fun d hd => ne_refs (ns := []) (ms := []) ⟨ins_fresh hc' hd, by decide⟩ ⟨ins_eq, by decide⟩ ?_)
    rw [decide_eq_true rfl]
    exact k _ (e.ins (e.none hd))
end Mine

end

section
open PySem PySem.W PyProof.Rows PySem.Calls
set_option Elab.async false
set_option backward.match.sparseCases false
set_option maxRecDepth 100000
namespace Mine
noncomputable def turnB : List MS := [
    .ifS (.cmp .IsNot (.var "ring") (.const .none)) [
      .assign (.name "names") (.comp ["name"] (.var "name") (.name "name") (.pcall .range [(.var "many")]) [(.cmp .Eq (.sub (.var "stands") (.var "name")) (.var "name"))] []),
      .assign (.name "told") (.comp ["a", "b"] (.tup [(.sub (.var "stands") (.var "a")), (.sub (.var "stands") (.var "b"))]) (.tup ["a", "b"]) (.var "steps") [(.cmp .NotEq (.sub (.var "stands") (.var "a")) (.sub (.var "stands") (.var "b")))] []),
      .assign (.name "ring") (.meth (.fcall 148 [(.var "names"), (.var "told")]) "_find_cycle" []),
      .ifS (.cmp .IsNot (.var "ring") (.const .none)) [
        .ifS (.or [(.not (.plain (.pcall .isinstance [(.var "ring"), (.gl "list" (.val (.type "list")))]))), (.cmp .NotEq (.slice (.var "ring") none (some (.const (.int 1)))) (.slice (.var "ring") (some (.neg (.const (.int 1)))) none))]) [
          .ret (.const (.bool false))] [],
        .ifS (.cmp .NotEq (.comp ["name"] (.var "name") (.name "name") (.slice (.var "ring") (some (.const (.int 1))) none) [(.cmp .NotEq (.meth (.slice (.var "ring") (some (.const (.int 1))) none) "count" [(.var "name")]) (.const (.int 1)))] []) (.list [])) [
          .ret (.const (.bool false))] [],
        .ifS (.cmp .NotEq (.comp ["k"] (.var "k") (.name "k") (.pcall .range [(.const (.int 1)), (.pcall .len [(.var "ring")])]) [(.cmp .NotIn (.tup [(.sub (.var "ring") (.bin .Sub (.var "k") (.const (.int 1)))), (.sub (.var "ring") (.var "k"))]) (.var "told"))] []) (.list [])) [
          .ret (.const (.bool false))] [],
        .assign (.name "stands") (.comp ["name"] (.ife (.cmp .In (.var "name") (.var "ring")) (.pcall .min [(.var "ring")]) (.var "name")) (.name "name") (.var "stands") [] [])] []] []]
variable {T : Tb} {Q : VK} {X : AS → Prop} {F : FK} {σ σ₁ τ : AS} {n N c : Nat} {ct : CT} {x : Sr} {H H' H₀ : Hp} {st : List Int} {es : List (Int × Int)} {ta sa b : Addr} {v m : Int} {mid : List Int} {l₀ : String → Option AV}

/-- between the turns: what a sign stands under; a ring yet, or none -/
structure Tn (H₀ : Hp) (l₀ : String → Option AV) (es : List (Int × Int)) (N c : Nat) (τ : AS) : Prop where
  ex : ∃ st ta, StOk es N st ∧ τ.loc "stands" = some (.ref ta) ∧ τ.heap ta = some (.list (st.map .int)) ∧
     ((∃ r, τ.loc "ring" = some (.ref r) ∧ (reps st N).length + c ≤ N) ∨
      (τ.loc "ring" = some .none ∧ (∀ v, ¬ Rch (DD st es) v v) ∧ ∃ na oa, τ.loc "names" = some (.ref na) ∧ τ.loc "told" = some (.ref oa) ∧ τ.heap na = some (.list ((reps st N).map .int)) ∧ τ.heap oa = some (.list ((toldL st es).map pairOf))))
  ext : Ext H₀ τ.heap
  lc : ∀ z, z ∉ ["turn", "names", "told", "ring", "stands"] → τ.loc z = l₀ z

theorem Tn.turn (h : Tn H₀ l₀ es N c τ) {t : AV} : Tn H₀ l₀ es N c (τ.set "turn" t) := by
  obtain ⟨⟨st, ta, a, b, d, e⟩, f, g⟩ := h
  refine ⟨⟨st, ta, a, b, d, ?_⟩, f, fun z hz => (set_ne (by rintro rfl; exact hz (by decide))).trans (g z hz)⟩
  rcases e with ⟨r, e₁, e₂⟩ | ⟨e₁, e₂, na, oa, e₃⟩
  · exact .inl ⟨r, e₁, e₂⟩
  · exact .inr ⟨e₁, e₂, na, oa, e₃⟩

theorem exists_min : ∀ {l : List Int}, l ≠ [] → ∃ m ∈ l, ∀ j ∈ l, m ≤ j
  | [a], _ => ⟨a, .head _, fun j h => by rw [List.mem_singleton.1 h]; omega⟩
  | a :: b :: l, _ => by
    obtain ⟨m, h₁, h₂⟩ := exists_min (l := b :: l) (by simp)
    by_cases q : a ≤ m
    · exact ⟨a, .head _, fun j h => by
        rcases List.mem_cons.1 h with rfl | h
        · omega
        · have := h₂ j h; omega⟩
    · exact ⟨m, .tail _ h₁, fun j h => by
        rcases List.mem_cons.1 h with rfl | h
        · omega
        · exact h₂ j h⟩

theorem FinOk.noRch {D : Int → Int → Prop} {suc : Int → List Int} {fin ks : List Int} (h : FinOk suc fin) (hk : ∀ k ∈ ks, k ∈ fin) (hD : ∀ i j, D i j → i ∈ ks ∧ j ∈ suc i) (v : Int) : ¬ Rch D v v :=
  fun r => h.acyc (D := D) (fun i j d => ⟨hk _ (hD i j d).1, (hD i j d).2⟩) r

theorem turn_ok (L : Lib2 T) (hN : N < 90) (hi : In es N) (el : es.length < 90) (lm : l₀ "many" = some (.int N)) (lo : l₀ "steps" = some (.ref sa)) (he : H₀ sa = some (.list (es.map pairOf)))
    (h : Tn H₀ l₀ es N c τ) {K : FK} (q : ∀ τ', Tn H₀ l₀ es N (c + 1) τ' → K .next τ') : execsW T (callW T (n + 4)) turnB K τ := by
  obtain ⟨⟨st, ta, so, ls, hs, hr⟩, ext, lc⟩ := h
  have hsl := so.len
  rcases hr with ⟨r, lr, hc⟩ | ⟨lr, ac, na, oa, hn⟩
  · refine x_if (c_cmp (w_var lr (w_const (isnot_rn (ifT ?_)))))
    refine x_asg (w_reps ls ((lc "many" (by decide)).trans lm) hs hsl (by omega) fun na H₁ _ hna e₁ => ?_)
    refine x_asg (w_told (σ := AS.set ⟨τ.loc, H₁⟩ "names" (.ref na)) (sa := sa) ls ((lc "steps" (by decide)).trans lo) (e₁ _ _ hs) (e₁ _ _ (ext _ _ he)) hsl (by omega) hi (by omega) fun oa H₂ _ hoa e₂ => ?_)
    have hna₂ := e₂ _ _ hna
    have hrl : (reps st N).length ≤ N := reps_len
    have htl : (toldL st es).length ≤ es.length := toldL_len
    refine x_asg (w_m0 (w_f2 (w_var (set_ne (by decide)) (w_var rfl ?_))))
    refine told_spec (σ := AS.set (AS.set ⟨τ.loc, H₂⟩ "names" (.ref na)) "told" (.ref oa)) (n := n) L hna₂ hoa reps_nd (by omega) (by omega) (so.told_in hi) fun H₃ y hy yk ym yl => ?_
    have yD : ∀ i j, j ∈ y.suc i ↔ DD st es i j := ym
    refine cal_inst hy.ok.inst hy.ok.nsd rfl L.m_cyc (cyc_spec (n := n + 3) (σ := ⟨_, H₃⟩) L.toLib hy.ok hy.cl (fun H₄ fin e₄ hf hk => ?_) fun H₄ b v mid hb e₄ hb' nd hk p => ?_)
    · refine x_if (c_cmp (w_var rfl (w_const (isnot_nn (ifF (x_end (x_end (x_nil ?_))))))))
      have e₀ : Ext H₁ H₄ := (e₂.trans hy.ext).trans e₄
      refine q _ ⟨⟨st, ta, so, ls, e₀ _ _ (e₁ _ _ hs), .inr ⟨rfl, ?_, na, oa, rfl, rfl, e₀ _ _ hna, (hy.ext.trans e₄) _ _ hoa⟩⟩, (ext.trans e₁).trans e₀, fun z hz => ?_⟩
      · exact FinOk.noRch (D := DD st es) hf hk fun i j d => ⟨by rw [yk]; exact (so.told_in hi _ d).1, (yD i j).2 d⟩
      · exact (set_ne (by rintro rfl; exact hz (by decide))).trans ((set_ne (by rintro rfl; exact hz (by decide))).trans ((set_ne (by rintro rfl; exact hz (by decide))).trans (lc z hz)))
    · have e₀ : Ext H₁ H₄ := (e₂.trans hy.ext).trans e₄
      have p : Pth (DD st es) v (mid ++ [v]) := by
        have : (fun i j => j ∈ y.suc i) = DD st es := by funext i j; exact propext (yD i j)
        rw [this] at p; exact p
      have hk : ∀ k ∈ v :: mid, k ∈ reps st N := fun k m => by have := hk k m; rw [yk] at this; exact this
      have ml : mid.length < 100 := by
        have := nd.length_le_of_subset (l₂ := reps st N) hk
        rw [List.length_cons] at this; omega
      refine x_if (c_cmp (w_var rfl (w_const (isnot_rn (ifT ?_)))))
      refine x_if (ring_chk1 rfl hb' (by omega) fun H₅ e₅ => ifF (x_end ?_))
      refine x_if (ring_chk2 rfl (e₅ _ _ hb') (by omega) nd fun H₆ e₆ => ifF (x_end ?_))
      refine x_if (ring_chk3 (ps := toldL st es) (oa := oa) rfl rfl (e₆ _ _ (e₅ _ _ hb')) (e₆ _ _ (e₅ _ _ ((hy.ext.trans e₄) _ _ hoa))) (by omega) (by omega) p fun H₇ e₇ => ifF (x_end ?_))
      have e₈ : Ext H₁ H₇ := ((e₀.trans e₅).trans e₆).trans e₇
      obtain ⟨m, m₁, m₂⟩ := exists_min (l := v :: mid ++ [v]) (by simp)
      have hmr : ∀ x, x ∈ v :: mid ++ [v] ↔ x ∈ v :: mid := fun x => by
        rw [List.mem_append, List.mem_singleton]; exact ⟨fun h => h.elim id fun e => e ▸ .head _, .inl⟩
      obtain ⟨so', lt'⟩ := so.melt hi p hk nd hmr m₁
      refine x_asg (w_melt (m := m) (ring := v :: mid ++ [v]) ls rfl (e₈ _ _ (e₁ _ _ hs)) (e₇ _ _ (e₆ _ _ (e₅ _ _ hb'))) (by omega) (by rw [List.length_append, List.length_cons, List.length_singleton]; omega) m₁ m₂ fun ta' H₉ _ hta e₉ => ?_)
      refine x_end (x_end (x_nil (q _ ⟨⟨_, ta', so', rfl, hta, .inl ⟨b, rfl, by omega⟩⟩, ((ext.trans e₁).trans e₈).trans e₉, fun z hz => ?_⟩)))
      exact (set_ne (by rintro rfl; exact hz (by decide))).trans ((set_ne (by rintro rfl; exact hz (by decide))).trans ((set_ne (by rintro rfl; exact hz (by decide))).trans ((set_ne (by rintro rfl; exact hz (by decide))).trans (lc z hz))))
  · refine x_if (c_cmp (w_var lr (w_const (isnot_nn (ifF (x_end (x_nil ?_)))))))
    exact q _ ⟨⟨st, ta, so, ls, hs, .inr ⟨lr, ac, na, oa, hn⟩⟩, ext, lc⟩

/-- all turns -/
theorem turns_ok (L : Lib2 T) {r : List MS} (hN : N < 90) (hp : 0 < N) (hi : In es N) (el : es.length < 90) (lm : l₀ "many" = some (.int N)) (lo : l₀ "steps" = some (.ref sa)) (he : H₀ sa = some (.list (es.map pairOf)))
    (h : Tn H₀ l₀ es N 0 σ) (q : ∀ (τ : AS) st ta na oa, StOk es N st → τ.loc "stands" = some (.ref ta) → τ.heap ta = some (.list (st.map .int)) → τ.loc "ring" = some .none → (∀ v, ¬ Rch (DD st es) v v) → τ.loc "names" = some (.ref na) → τ.loc "told" = some (.ref oa) →
      τ.heap na = some (.list ((reps st N).map .int)) → τ.heap oa = some (.list ((toldL st es).map pairOf)) → Ext H₀ τ.heap → (∀ z, z ∉ ["turn", "names", "told", "ring", "stands"] → τ.loc z = l₀ z) → execsW T (callW T (n + 4)) r F τ) :
    execsW T (callW T (n + 4)) (.forS (.name "turn") (.pcall .range [(.var "many")]) turnB :: r) F σ := by
  refine x_for (w_p1 (w_var ((h.lc "many" (by decide)).trans lm) (p_rng (by omega) (i_rng (by omega) ?_))))
  refine for_map (fun pre τ => Tn H₀ l₀ es N pre.length τ) h (fun _ _ _ => trivial) ?_ ?_
  · intro pre t post τ K e h hK
    refine bt_name (turn_ok L (n := n) hN hi el lm lo he h.turn fun τ' h' => hK .next _ ?_)
    show Tn _ _ _ _ _ _
    rw [List.length_append, List.length_singleton]; exact h'
  · rintro τ ⟨⟨st, ta, so, ls, hs, hr⟩, ext, lc⟩
    rcases hr with ⟨r, lr, hc⟩ | ⟨lr, ac, na, oa, h₁, h₂, h₃, h₄⟩
    · exfalso
      rw [range_len] at hc
      have h0 : (reps st N).length = 0 := by omega
      have z : (0 : Int) ∈ rangeL 0 N := range_mem.2 ⟨by omega, by omega⟩
      have := List.length_pos_of_mem (reps_mem.2 ⟨so.rng _ z, so.idem _ z⟩)
      omega
    · exact q τ st ta na oa so ls hs lr ac h₁ h₂ h₃ h₄ ext lc
end Mine

end

section
open PySem PySem.W PyProof.Rows PySem.Calls
set_option Elab.async false
set_option backward.match.sparseCases false
set_option maxRecDepth 100000
namespace Mine
noncomputable def choiceB : List MS := [
      .assign (.name "held") (.comp ["name"] (.var "name") (.name "name") (.pcall .range [(.var "many")]) [(.cmp .NotEq (.bin .BitAnd (.bin .RShift (.var "choice") (.bin .FloorDiv (.var "name") (.const (.int 2)))) (.const (.int 1))) (.bin .Mod (.var "name") (.const (.int 2))))] []),
      .ifS (.cmp .Eq (.fcall 153 [(.var "demands"), (.var "held")]) (.list [])) [
        .ret (.const (.bool false))] []]
variable {T : Tb} {Q : VK} {X : AS → Prop} {F : FK} {σ σ₁ τ : AS} {n N c : Nat} {ct : CT} {x : Sr} {H H' H₀ : Hp} {st : List Int} {es ds : List (Int × Int)} {ta sa da b : Addr} {v m i j : Int} {mid hs : List Int} {K : Bool → AS → Prop}

/-- what a choice holds -/
noncomputable def hold (c v : Int) : Bool := !(Builtin.bitAnd (c.fdiv (2 ^ (v.fdiv 2).toNat)) 1 == v.fmod 2)
theorem hold_nt {c : Int} : hold c (nt v) = !hold c v := by
  have e₁ : (nt v).fdiv 2 = v.fdiv 2 := by
    rw [Int.fdiv_eq_ediv_of_nonneg _ (by decide), Int.fdiv_eq_ediv_of_nonneg _ (by decide)]; unfold nt; omega
  have e₂ : (nt v).fmod 2 = 1 - v.fmod 2 := by
    rw [Int.fmod_eq_emod_of_nonneg _ (by decide), Int.fmod_eq_emod_of_nonneg _ (by decide)]; unfold nt; omega
  unfold hold
  rw [e₁, e₂, bitAnd_m1, Int.fmod_eq_emod_of_nonneg _ (by decide)]
  generalize c.fdiv (2 ^ (v.fdiv 2).toNat) = y
  by_cases q : y % 2 = v % 2
  · rw [beq_iff_eq.2 q, beq_eq_false_iff_ne.2 (by omega)]; rfl
  · rw [beq_eq_false_iff_ne.2 q, beq_iff_eq.2 (by omega)]; rfl

noncomputable def stepsOf (ds : List (Int × Int)) : List (Int × Int) := ds.flatMap fun p => [(nt p.1, p.2), (nt p.2, p.1)]
theorem steps_mem : (i, j) ∈ stepsOf ds ↔ ∃ a b, (a, b) ∈ ds ∧ ((i = nt a ∧ j = b) ∨ (i = nt b ∧ j = a)) := by
  unfold stepsOf
  rw [List.mem_flatMap]
  constructor
  · rintro ⟨⟨a, b⟩, h, m⟩
    refine ⟨a, b, h, ?_⟩
    rcases List.mem_cons.1 m with m | m
    · cases m; exact .inl ⟨rfl, rfl⟩
    · cases List.mem_singleton.1 m; exact .inr ⟨rfl, rfl⟩
  · rintro ⟨a, b, h, ⟨rfl, rfl⟩ | ⟨rfl, rfl⟩⟩
    · exact ⟨_, h, .head _⟩
    · exact ⟨_, h, .tail _ (.head _)⟩
theorem unmet_nil : unmet ds hs = [] ↔ ∀ p ∈ ds, p.1 ∈ hs ∨ p.2 ∈ hs := by
  unfold unmet
  rw [List.map_eq_nil_iff, List.filter_eq_nil_iff]
  refine ⟨fun h p m => ?_, fun h p m => ?_⟩
  · have := h p m
    by_cases q : p.1 ∈ hs
    · exact .inl q
    · exact .inr (Classical.byContradiction fun r => this (by simp [q, r]))
  · rcases h p m with q | q <;> simp [q]

theorem no_held (hd : In ds N) (hm : MR (EE (stepsOf ds)) v (nt v)) (c : Int) : unmet ds ((rangeL 0 N).filter fun v => hold c v) ≠ [] := by
  intro e
  rw [unmet_nil] at e
  have hh : ∀ x, x ∈ (rangeL 0 N).filter (fun v => hold c v) → hold c x = true := fun x m => (List.mem_filter.1 m).2
  have fl : ∀ x, hold c (nt x) = true → hold c x = true → False := fun x p q => by rw [hold_nt, q] at p; cases p
  refine no_choice (H := fun x => hold c x = true) (fun i j k h => ?_) (fun x => ?_) hm
  · obtain ⟨a, b, m, ⟨rfl, rfl⟩ | ⟨rfl, rfl⟩⟩ := steps_mem.1 k
    · rcases e _ m with q | q
      · exact (fl a h (hh _ q)).elim
      · exact hh _ q
    · rcases e _ m with q | q
      · exact hh _ q
      · exact (fl b h (hh _ q)).elim
  · rw [hold_nt]
    cases hold c x
    · exact .inr ⟨nofun, rfl⟩
    · exact .inl ⟨rfl, nofun⟩

theorem i_xor {a b : Int} (h : Q (.int (Builtin.bitXor a b)) σ) : binW .BitXor (.int a) (.int b) Q σ := h

/-- are two opposite signs melted -/
theorem same_chk {h : Nat} (eN : N = 2 * h) (ls : σ.loc "stands" = some (.ref ta)) (lm : σ.loc "many" = some (.int N)) (hs : σ.heap ta = some (.list (st.map .int))) (hl : st.length = N) (hN : N < 1000)
    (k : ∀ H', Ext σ.heap H' → K (!decide ((rangeL 0 N).filter (fun v => stf st v == stf st (nt v)) = [])) ⟨σ.loc, H'⟩) :
    condW T ct (.cmp .NotEq (.comp ["name"] (.var "name") (.name "name") (.pcall .range [(.var "many")]) [(.cmp .Eq (.sub (.var "stands") (.var "name")) (.sub (.var "stands") (.bin .BitXor (.var "name") (.const (.int 1)))))] []) (.list [])) K σ := by
  refine c_cmp (w_filterR (x := "name") (fun v => stf st v == stf st (nt v)) lm (by omega) (fun v hv σ' K e lk lv k => ?_) fun a H' fa ha e => ?_)
  · have l₁ := (lk "stands" (by decide)).trans ls
    have ⟨a, b⟩ := range_mem.1 hv
    refine cs_one <| c_cmp <| w_sub <| w_var l₁ <| w_var lv <| st_sub (e _ _ hs) hl hN hv <| w_sub <| w_var l₁ <| w_bin <| w_var lv <| w_const <| i_xor ?_
    rw [nt_eq]
    refine st_sub (e _ _ hs) hl hN ?_ (eq_int (k _ Ext.rfl))
    have := nt_in (h := h) a (by rw [← eN]; exact b)
    rw [← eN] at this
    exact range_mem.2 this
  · have hlf : ((rangeL 0 N).filter (fun v => stf st v == stf st (nt v))).length ≤ N := by
      have := List.length_filter_le (fun v => stf st v == stf st (nt v)) (rangeL 0 N); rw [range_len] at this; exact this
    exact w_list (ws_nil fun d hd => ne_refs (ms := []) ⟨ins_fresh ha hd, by omega⟩ ⟨ins_eq, by decide⟩ (k _ (e.ins (e.none hd))))

/-- no choice meets all demands -/
theorem none_ok (L : Lib2 T) {h : Nat} (eN : N = 2 * h) (hN : N < 20) (lm : σ.loc "many" = some (.int N)) (ld : σ.loc "demands" = some (.ref da)) (hd : σ.heap da = some (.list (ds.map pairOf))) (dl : ds.length < 1000) (hi : In ds N)
    (hm : MR (EE (stepsOf ds)) v (nt v)) (q : ∀ τ, F (.ret (.bool true)) τ) :
    execsW T (callW T (n + 1)) [.forS (.name "choice") (.pcall .range [(.bin .Pow (.const (.int 2)) (.bin .FloorDiv (.var "many") (.const (.int 2))))]) choiceB, .ret (.const (.bool true))] F σ := by
  refine x_for (w_p1 (w_bin (w_const (w_bin (w_var lm (w_const (i_div (by decide) ?_)))))))
  have ed : (N : Int).fdiv 2 = (h : Int) := by rw [Int.fdiv_eq_ediv_of_nonneg _ (by decide)]; omega
  rw [ed]
  have hp : (2 : Int) ^ h < 2 ^ 20 := Int.pow_lt_pow_of_lt (by decide) (by omega)
  have hp0 : (0 : Int) < 2 ^ h := Int.pow_pos (by decide)
  have hpn : ((2 : Int) ^ h).natAbs < 2 ^ 60 := by
    generalize (2 : Int) ^ h = z at hp hp0; omega
  refine ⟨by omega, by omega, by decide, ?_⟩
  rw [Int.toNat_natCast]
  refine ⟨hpn, i_range (by decide) hpn ?_⟩
  refine for_map (fun _ τ => Ext σ.heap τ.heap ∧ ∀ z, z ∉ ["choice", "held"] → τ.loc z = σ.loc z) ⟨Ext.rfl, fun _ _ => rfl⟩ (fun _ _ _ => trivial) ?_ fun τ _ => x_ret (w_const (q _))
  rintro pre c post τ K e ⟨ext, lc⟩ hK
  have hc : 0 ≤ c := by
    have := mid_mem e
    unfold rangeL at this
    obtain ⟨j, _, rfl⟩ := List.mem_map.1 this; omega
  have lk : ∀ z, z ∉ ["choice", "held"] → (τ.set "choice" (.int c)).loc z = σ.loc z := fun z hz => (set_ne (ne_mem hz (.head _))).trans (lc z hz)
  refine bt_name (x_asg (w_filterR (σ := τ.set "choice" (.int c)) (x := "name") (fun v => hold c v) ((lk "many" (by decide)).trans lm) (by omega) (fun v hv σ' K e lk' lv k => ?_) fun a H' fa ha e' => ?_))
  · have ⟨a, b⟩ := range_mem.1 hv
    have hv2 : 0 ≤ v.fdiv 2 := by rw [Int.fdiv_eq_ediv_of_nonneg _ (by decide)]; omega
    exact cs_one <| c_cmp <| w_bin <| w_bin <| w_var (lk' "choice" (by decide)) <| w_bin <| w_var lv <| w_const <| i_div (by decide) <| b_shr hv2 <| w_const <| b_and <| w_bin <| w_var lv <| w_const <| i_mod (by decide) <| ne_int (k _ Ext.rfl)
  · have hlf : ((rangeL 0 N).filter (fun v => hold c v)).length ≤ N := by
      have := List.length_filter_le (fun v => hold c v) (rangeL 0 N); rw [range_len] at this; exact this
    have hd' : H' da = some (.list (ds.map pairOf)) := e' _ _ (ext _ _ hd)
    have ld' : ((AS.set ⟨(τ.set "choice" (.int c)).loc, H'⟩ "held" (.ref a)).loc "demands") = some (.ref da) := (set_ne (by decide)).trans ((lk "demands" (by decide)).trans ld)
    refine x_if (c_cmp (w_f2 (w_var ld' (w_var rfl (unmet_spec L hd' ha dl (by omega) fun H₂ b fb e₂ hb => ?_)))))
    have ul : (unmet ds ((rangeL 0 N).filter fun v => hold c v)).length ≤ ds.length := by
      unfold unmet; rw [List.length_map]; exact List.length_filter_le ..
    refine w_list (ws_nil fun d hd₂ => eq_refs (ms := []) ⟨ins_fresh hb hd₂, by omega⟩ ⟨ins_eq, by decide⟩ ?_)
    rw [decide_eq_false (no_held hi hm c)]
    refine ifF (x_end (x_nil (hK .next _ ⟨((ext.trans e').trans e₂).ins (((ext.trans e').trans e₂).none hd₂), fun z hz => ?_⟩)))
    exact (set_ne (ne_mem hz (.tail _ (.head _)))).trans (lk z hz)
end Mine

end

section
open PySem PySem.W PyProof.Rows PySem.Calls
set_option Elab.async false
set_option backward.match.sparseCases false
set_option maxRecDepth 100000
namespace Mine
variable {T : Tb} {Q : VK} {X : AS → Prop} {F : FK} {σ σ₁ τ : AS} {n N c : Nat} {ct : CT} {x : Sr} {H H' H₀ : Hp} {st : List Int} {es ds : List (Int × Int)} {ta sa da b : Addr} {v m i j : Int} {mid hs : List Int} {K : Bool → AS → Prop}

theorem steps_in {h : Nat} (eN : N = 2 * h) (hd : In ds N) : In (stepsOf ds) N := by
  rintro ⟨i, j⟩ m
  have nti : ∀ {x : Int}, x ∈ rangeL 0 N → nt x ∈ rangeL 0 N := fun {x} hx => by
    have ⟨a, b⟩ := range_mem.1 hx
    have := nt_in (h := h) a (by rw [← eN]; exact b)
    rw [← eN] at this
    exact range_mem.2 this
  obtain ⟨a, b, k, ⟨rfl, rfl⟩ | ⟨rfl, rfl⟩⟩ := steps_mem.1 m
  · exact ⟨nti (hd _ k).1, (hd _ k).2⟩
  · exact ⟨nti (hd _ k).2, (hd _ k).1⟩

theorem idx_inj {a b : Int} : ∀ {o : List Int}, a ∈ o → o.idxOf a = o.idxOf b → a = b
  | x :: o, h, e => by
    rw [List.idxOf_cons, List.idxOf_cons] at e
    by_cases p : x = a
    · by_cases q : x = b
      · exact p.symm.trans q
      · rw [beq_iff_eq.2 p, beq_eq_false_iff_ne.2 q] at e; cases e
    · by_cases q : x = b
      · rw [beq_iff_eq.2 q, beq_eq_false_iff_ne.2 p] at e; cases e
      · rw [beq_eq_false_iff_ne.2 p, beq_eq_false_iff_ne.2 q] at e
        exact idx_inj ((List.mem_cons.1 h).resolve_left (Ne.symm p)) (Nat.succ.inj e)

noncomputable def later (st o : List Int) (v : Int) : Bool := decide (((o.idxOf (stf st (nt v)) : Nat) : Int) < ((o.idxOf (stf st v) : Nat) : Int))
theorem order_meets {o : List Int} (hd : In ds N) (so : StOk (stepsOf ds) N st) (hi : In (stepsOf ds) N) (df : ∀ v ∈ rangeL 0 N, stf st v ≠ stf st (nt v)) (ho : ∀ k ∈ reps st N, k ∈ o)
    (top : ∀ i j, DD st (stepsOf ds) i j → o.idxOf i < o.idxOf j) : unmet ds ((rangeL 0 N).filter fun v => later st o v) = [] := by
  rw [unmet_nil]
  rintro ⟨a, b⟩ m
  have ⟨ra, rb⟩ := hd _ m
  refine Classical.byContradiction fun nn => ?_
  rw [not_or] at nn
  have no : ∀ {x}, x ∈ rangeL 0 N → ¬ x ∈ (rangeL 0 N).filter (fun v => later st o v) → o.idxOf (stf st x) ≤ o.idxOf (stf st (nt x)) := fun {x} hx hn => by
    have : ¬ later st o x = true := fun q => hn (List.mem_filter.2 ⟨hx, q⟩)
    unfold later at this
    rw [decide_eq_true_iff] at this
    omega
  have go : ∀ {x y}, (x, y) ∈ stepsOf ds → o.idxOf (stf st x) ≤ o.idxOf (stf st y) := fun {x y} h => by
    by_cases q : stf st x = stf st y
    · rw [q]; exact Nat.le_refl _
    · exact Nat.le_of_lt (top _ _ (toldL_mem.2 ⟨x, y, h, q, rfl, rfl⟩))
  have h₁ : o.idxOf (stf st a) ≤ o.idxOf (stf st (nt a)) := no ra nn.1
  have h₂ : o.idxOf (stf st b) ≤ o.idxOf (stf st (nt b)) := no rb nn.2
  have h₃ := go (steps_mem.2 ⟨a, b, m, .inl ⟨rfl, rfl⟩⟩)
  have h₄ := go (steps_mem.2 ⟨a, b, m, .inr ⟨rfl, rfl⟩⟩)
  have r : stf st a ∈ reps st N := reps_mem.2 ⟨so.rng _ ra, so.idem _ ra⟩
  exact df a ra (idx_inj (ho _ r) (by omega))

theorem Kn.insL {R a : Addr} {Dn g : List Int} {cur : Int → Nat} {l l' : List AV} (h : Kn x R Dn g cur H₀ H) (ha : H a = some (.list l)) (hn : ∀ k ∈ x.ks, x.L k ≠ a) (hR : R ≠ a) (h0 : H₀ a = none) : Kn x R Dn g cur H₀ (H.ins a (.list l')) := by
  obtain ⟨⟨cnt, np, nf, rl, h₁, h₂, h₃, h₅, h₆⟩, h₄⟩ := h
  exact ⟨⟨cnt, np, nf, rl, h₁.insL ha hn, ins_get hR h₂, h₃, h₅, h₆⟩, fun p o e k => ins_get (ne_fresh e h0) (h₄ p o e k)⟩

/-- what is kept of the order -/
structure Od (y : Sr) (Dn o : List Int) (c : Nat) : Prop where
  m : ∀ k, k ∈ o ↔ k ∈ Dn
  nd : o.Nodup
  ks : ∀ k ∈ Dn, k ∈ y.ks
  z : ∀ k ∈ Dn, deg y Dn k = 0
  top : ∀ i ∈ y.ks, ∀ j ∈ y.suc i, j ∈ o → i ∈ o ∧ o.idxOf i < o.idxOf j
  pr : c ≤ o.length ∨ ∀ k ∈ y.ks, k ∈ o
theorem Od.start {y : Sr} : Od y [] [] 0 := ⟨fun _ => .rfl, .nil, nofun, nofun, nofun, .inl (Nat.le_refl _)⟩
theorem Od.next {y : Sr} {Dn o g fin : List Int} (h : Od y Dn o c) (gn : g.Nodup) (gm : ∀ k, k ∈ g ↔ k ∈ y.ks ∧ k ∉ Dn ∧ deg y Dn k = 0) (hf : FinOk y.suc fin) (hk : ∀ k ∈ y.ks, k ∈ fin) : Od y (g ++ Dn) (o ++ g) (c + 1) := by
  have hno : ∀ k ∈ g, k ∉ o := fun k m n => ((gm k).1 m).2.1 ((h.m k).1 n)
  refine ⟨fun k => ?_, ?_, fun k m => ?_, fun k m => ?_, fun i hi j hj m => ?_, ?_⟩
  · rw [List.mem_append, List.mem_append, h.m k, or_comm]
  · exact List.nodup_append.2 ⟨h.nd, gn, fun a ha b hb e => hno b hb (e ▸ ha)⟩
  · rcases List.mem_append.1 m with m | m
    · exact ((gm k).1 m).1
    · exact h.ks k m
  · have h0 : deg y Dn k = 0 := by
      rcases List.mem_append.1 m with m | m
      · exact ((gm k).1 m).2.2
      · exact h.z k m
    have := wsum_le (ks := y.ks) (w := fun p => (y.suc p).count k) (S := Dn) (S' := g ++ Dn) fun p m => List.mem_append.2 (.inr m)
    unfold deg at h0 ⊢
    omega
  · rcases List.mem_append.1 m with m | m
    · have ⟨a, b⟩ := h.top i hi j hj m
      refine ⟨List.mem_append.2 (.inl a), ?_⟩
      rw [List.idxOf_append, List.idxOf_append, if_pos a, if_pos m]; exact b
    · have d := ((gm j).1 m).2.2
      have hi' : i ∈ Dn := Classical.byContradiction fun n => deg_zero.1 d i hi n hj
      have ho := (h.m i).2 hi'
      refine ⟨List.mem_append.2 (.inl ho), ?_⟩
      rw [List.idxOf_append, List.idxOf_append, if_pos ho, if_neg (hno j m)]
      have := List.idxOf_lt_length_of_mem ho
      omega
  · rcases h.pr with p | p
    · cases g with
      | cons a g => exact .inl (by rw [List.length_append, List.length_cons]; omega)
      | nil =>
        refine .inr fun k hk' => ?_
        rw [List.append_nil]
        refine Classical.byContradiction fun n => ?_
        refine FinOk.none (P := fun v => v ∈ y.ks ∧ v ∉ Dn) (fun v ⟨a, b⟩ => ?_) hf (fun v h => hk v h.1) k ⟨hk', fun m => n ((h.m k).2 m)⟩
        have : ¬ deg y Dn v = 0 := fun d => by cases (gm v).2 ⟨a, b, d⟩
        rw [deg_zero] at this
        refine Classical.byContradiction fun n => this fun p hp hd hs => n ⟨p, ⟨hp, hd⟩, hs⟩
    · exact .inr fun k hk' => List.mem_append.2 (.inl (p k hk'))
theorem Od.all {y : Sr} {Dn o : List Int} (h : Od y Dn o y.ks.length) : ∀ k, k ∈ o ↔ k ∈ y.ks := by
  refine fun k => ⟨fun m => h.ks k ((h.m k).1 m), fun m => ?_⟩
  rcases h.pr with p | p
  · refine Classical.byContradiction fun n => ?_
    have := (List.nodup_cons.2 ⟨n, h.nd⟩).length_le_of_subset (l₂ := y.ks) fun j hj => by
      rcases List.mem_cons.1 hj with rfl | hj
      · exact m
      · exact h.ks j ((h.m j).1 hj)
    rw [List.length_cons] at this
    omega
  · exact p k m
end Mine

end

section
open PySem PySem.W PyProof.Rows PySem.Calls
set_option Elab.async false
set_option backward.match.sparseCases false
set_option maxRecDepth 100000
namespace Mine
variable {T : Tb} {Q : VK} {X : AS → Prop} {F : FK} {σ σ₁ τ : AS} {n N c : Nat} {ct : CT} {x : Sr} {H H' H₀ : Hp} {st : List Int} {es ds : List (Int × Int)} {ta sa da na oa b : Addr} {v m i j : Int} {mid hs : List Int} {K : Bool → AS → Prop}
noncomputable def orderB : List MS := [
    .assign (.name "group") (.meth (.var "sorter") "get_ready" []),
    .expr (.meth (.var "order") "extend" [(.var "group")]),
    .expr (.methS (.var "sorter") "done" (.var "group"))]

theorem Kn.insL' {R a : Addr} {Dn g : List Int} {cur : Int → Nat} {l' : List AV} (h : Kn x R Dn g cur H₀ H) (ha : H a = none) : Kn x R Dn g cur H₀ (H.ins a (.list l')) := h.ext (Ext.ins' ha)
/-- a turn of the handing out -/
theorem order_turn (L : Lib T) {y : Sr} {R ra : Addr} {Dn o fin : List Int} {K : FK} (hr : y.rdy = .ref R) (hn : ∀ k ∈ y.ks, y.L k ≠ R) (hna : ∀ k ∈ y.ks, y.L k ≠ ra) (hR : R ≠ ra) (h0 : H₀ ra = none) (cl : ∀ k ∈ y.ks, ∀ j ∈ y.suc k, j ∈ y.ks) (yl : y.ks.length < 90)
    (hf : FinOk y.suc fin) (hk : ∀ k ∈ y.ks, k ∈ fin) (kn : Kn y R Dn [] (deg y Dn) H₀ τ.heap) (od : Od y Dn o c) (ho : τ.heap ra = some (.list (o.map .int))) (ls : τ.loc "sorter" = some (.ref y.s)) (lo : τ.loc "order" = some (.ref ra))
    (q : ∀ (τ' : AS) Dn' o', Kn y R Dn' [] (deg y Dn') H₀ τ'.heap → Od y Dn' o' (c + 1) → τ'.heap ra = some (.list (o'.map .int)) → (∀ z, z ≠ "group" → τ'.loc z = τ.loc z) → K .next τ') :
    execsW T (callW T (n + 1)) orderB K τ := by
  obtain ⟨cnt, np, nf, rl, ok, _⟩ := kn.ex
  refine x_asg (w_m0 (w_var ls (cal_inst ok.inst ok.nsd rfl L.m_ready (ready_spec L hr hn kn.re fun H₂ g kn₂ gnd gm => ?_))))
  have ho₂ := kn₂.keep kn ho hR.symm
  have gl : g.length ≤ y.ks.length := gnd.length_le_of_subset fun k m => ((gm k).1 m).1
  have ol : o.length ≤ y.ks.length := od.nd.length_le_of_subset fun k m => od.ks k ((od.m k).1 m)
  have lo' : ((AS.set ⟨τ.loc, H₂⟩ "group" (.tup (g.map .int))).loc "order") = some (.ref ra) := (set_ne (by decide)).trans lo
  have ls' : ((AS.set ⟨τ.loc, H₂⟩ "group" (.tup (g.map .int))).loc "sorter") = some (.ref y.s) := (set_ne (by decide)).trans ls
  refine x_expr (w_m1 (w_var lo' (cal_list ho₂ (by simp) (w_var rfl ⟨_, ho₂, b_extT (by rw [List.length_map]; omega) (by rw [List.length_map]; omega) ?_⟩))))
  rw [← List.map_append]
  have knB : Kn y R Dn g (deg y Dn) H₀ (H₂.ins ra (.list ((o ++ g).map .int))) := Kn.insL ⟨kn₂.ex, kn.fr.trans kn₂.fr⟩ ho₂ hna hR h0
  obtain ⟨cnt, np, nf, rl, ok, _⟩ := knB.ex
  have od' := od.next gnd gm hf hk
  refine x_expr (w_mS (w_var ls' ⟨_, _, _, _, _, rfl, ok.inst, ok.nsd, rfl, L.m_done, w_var rfl ⟨_, rfl, ?_, done_spec L hr hn cl knB.re (fun k m => ((gm k).1 m).1) gnd (fun k m => ((gm k).1 m).2.1) (fun k m => ?_) fun H₄ kn₄ => ?_⟩⟩))
  · rw [List.length_map]; omega
  · rcases m with m | m
    · exact ((gm k).1 m).2.2
    · exact od.z k m
  · exact x_nil (q _ _ _ ⟨kn₄.ex, knB.fr.trans kn₄.fr⟩ od' (kn₄.keep knB ins_eq hR.symm) fun z hz => set_ne hz)

/-- what is left is handed out, and its order meets all demands -/
theorem order_ok (L : Lib2 T) {h : Nat} (eN : N = 2 * h) (hN : N < 60) (lm : σ.loc "many" = some (.int N)) (ld : σ.loc "demands" = some (.ref da)) (ls : σ.loc "stands" = some (.ref ta)) (ln : σ.loc "names" = some (.ref na)) (lt : σ.loc "told" = some (.ref oa))
    (hd : σ.heap da = some (.list (ds.map pairOf))) (hs : σ.heap ta = some (.list (st.map .int))) (hn : σ.heap na = some (.list ((reps st N).map .int))) (ht : σ.heap oa = some (.list ((toldL st (stepsOf ds)).map pairOf)))
    (dl : ds.length < 40) (hi : In ds N) (so : StOk (stepsOf ds) N st) (ac : ∀ v, ¬ Rch (DD st (stepsOf ds)) v v) (df : ∀ v ∈ rangeL 0 N, stf st v ≠ stf st (nt v)) (q : ∀ τ, F (.ret (.bool true)) τ) :
    execsW T (callW T (n + 4)) [
      .assign (.name "sorter") (.fcall 148 [(.var "names"), (.var "told")]),
      .expr (.meth (.var "sorter") "prepare" []),
      .assign (.name "order") (.list []),
      .forS (.name "name") (.var "names") orderB,
      .ifS (.cmp .NotEq (.pcall .sorted [(.var "order")]) (.var "names")) [
        .ret (.const (.bool false))] [],
      .assign (.name "held") (.comp ["name"] (.var "name") (.name "name") (.pcall .range [(.var "many")]) [(.cmp .Gt (.meth (.var "order") "index" [(.sub (.var "stands") (.var "name"))]) (.meth (.var "order") "index" [(.sub (.var "stands") (.bin .BitXor (.var "name") (.const (.int 1))))]))] []),
      .ret (.cmp .Eq (.fcall 153 [(.var "demands"), (.var "held")]) (.list []))] F σ := by
  have hi' := steps_in eN hi
  have rl := reps_len (st := st) (N := N)
  have sl : (stepsOf ds).length ≤ 2 * ds.length := flat_bd fun v _ => Nat.le_refl _
  have tl := toldL_len (st := st) (es := stepsOf ds)
  refine x_asg (w_f2 (w_var ln (w_var lt (told_spec L hn ht reps_nd (by omega) (by omega) (so.told_in hi') fun H₁ y hy yk ym yl => ?_))))
  have yD : ∀ i j, j ∈ y.suc i ↔ DD st (stepsOf ds) i j := ym
  have eD : (fun i j => j ∈ y.suc i) = DD st (stepsOf ds) := by funext i j; exact propext (yD i j)
  refine x_expr (w_m0 (w_var rfl (cal_inst hy.ok.inst hy.ok.nsd rfl L.m_prep (prep_spec (n := n + 2) (σ := AS.set ⟨σ.loc, H₁⟩ "sorter" (.ref y.s)) L.toLib hy.ok hy.rdy hy.cl ?_ ?_))))
  rotate_left
  · intro H₂ R v mid _ _ _ _ _ _ p
    rw [eD] at p
    exact ac v p.rch
  intro H₂ R fin hR ho hRl fr hf hk
  refine x_asg (w_list (ws_nil fun ra hra => ?_))
  have keepL : ∀ a l, σ.heap a = some (.list l) → H₂ a = some (.list l) := fun a l e => fr a _ (hy.ext _ _ e) (ne_of (hy.ext _ _ e) hy.ok.nsd nofun)
  have hRa : R ≠ ra := ne_fresh hRl hra
  have hnR : ∀ k ∈ y.ks, y.L k ≠ R := fun k hk => ne_fresh (hy.ok.lst k hk) hR
  have hLa : ∀ k ∈ y.ks, y.L k ≠ ra := fun k hk => ne_fresh (ho.lst k hk) hra
  have kn₂ : Kn { y with rdy := .ref R } R [] [] (deg { y with rdy := .ref R } []) H₂ H₂ := by
    refine ⟨⟨y.cnt, y.np, y.nf, _, ho, hRl, (ho.nd).sublist List.filter_sublist, fun k => ?_, fun k hk => ?_⟩, Fr.rfl⟩
    · rw [List.mem_filter]
      constructor
      · rintro ⟨a, b⟩
        have b : y.cnt k = 0 := by simpa using b
        rw [hy.dg k a] at b
        exact ⟨a, List.not_mem_nil, List.not_mem_nil, by exact_mod_cast b⟩
      · rintro ⟨a, _, _, b⟩
        have b : deg y [] k = 0 := b
        exact ⟨a, by rw [hy.dg k a, b]; rfl⟩
    · rw [if_neg List.not_mem_nil, if_neg List.not_mem_nil]; exact hy.dg k hk
  have lk : ∀ z, z ∉ ["sorter", "order"] → (AS.set ⟨(AS.set ⟨σ.loc, H₁⟩ "sorter" (.ref y.s)).loc, H₂.ins ra (.list [])⟩ "order" (.ref ra)).loc z = σ.loc z := fun z hz => (set_ne (ne_mem hz (.tail _ (.head _)))).trans (set_ne (ne_mem hz (.head _)))
  have keep : ∀ {H Dn}, Kn { y with rdy := .ref R } R Dn [] (deg { y with rdy := .ref R } Dn) H₂ H → ∀ a l, σ.heap a = some (.list l) → H a = some (.list l) := fun kn a l e => kn.keep kn₂ (keepL a l e) (ne_fresh (hy.ext _ _ e) hR)
  refine x_for (w_var ((lk "names" (by decide)).trans ln) (i_list (ins_get (ne_fresh (keepL _ _ hn) hra) (keepL _ _ hn)) ?_))
  refine for_map (fun pre τ => ∃ Dn o, And6 (Kn { y with rdy := .ref R } R Dn [] (deg { y with rdy := .ref R } Dn) H₂ τ.heap) (Od { y with rdy := .ref R } Dn o pre.length) (τ.heap ra = some (.list (o.map .int))) (τ.loc "sorter" = some (.ref y.s)) (τ.loc "order" = some (.ref ra)) (∀ z, z ∉ ["sorter", "order", "name", "group"] → τ.loc z = σ.loc z))
    ⟨[], [], kn₂.insL' hra, Od.start, ins_eq, rfl, rfl, fun z hz => lk z fun m => hz (by simp only [List.mem_cons, List.not_mem_nil, or_false] at m ⊢; rcases m with m | m <;> simp [m])⟩ (by rintro l τ ⟨Dn, o, kn, _⟩; exact keep kn _ _ hn) ?_ ?_
  · rintro pre v post τ K e ⟨Dn, o, kn, od, hro, l₁, l₂, lc⟩ hK
    refine bt_name (order_turn (n := n + 3) (τ := τ.set "name" (.int v)) L.toLib (y := { y with rdy := .ref R }) (fin := fin) rfl hnR hLa hRa hra hy.cl (by rw [show Sr.ks { y with rdy := .ref R } = reps st N from yk]; omega) hf hk kn od hro ((set_ne (by decide)).trans l₁) ((set_ne (by decide)).trans l₂) fun τ' Dn' o' a b c d => hK .next _ ⟨Dn', o', a, ?_, c, ?_, ?_, fun z hz => ?_⟩)
    · rw [List.length_append, List.length_singleton]; exact b
    · exact (d _ (by decide)).trans ((set_ne (by decide)).trans l₁)
    · exact (d _ (by decide)).trans ((set_ne (by decide)).trans l₂)
    · exact (d _ (ne_mem hz (.tail _ (.tail _ (.tail _ (.head _)))))).trans ((set_ne (ne_mem hz (.tail _ (.tail _ (.head _))))).trans (lc z hz))
  · rintro τ ⟨Dn, o, kn, od, hro, l₁, l₂, lc⟩
    have hall : ∀ k, k ∈ o ↔ k ∈ reps st N := by
      rw [← yk] at od ⊢
      exact od.all
    have ol : o.length ≤ N := Nat.le_trans (od.nd.length_le_of_subset fun k m => (hall k).1 m) rl
    have hn' := keep kn _ _ hn
    refine x_if (c_cmp (w_p1 (w_var l₂ ⟨o, ⟨hro, by omega⟩, by omega, fun so' sb hso hsp hsb => w_var ((lc "names" (by decide)).trans ln) ?_⟩)))
    have hse : so' = reps st N := sorted_eq hso hsp od.nd reps_lt hall
    have hsl : so'.length = o.length := hso.length_eq
    refine ne_refs (ns := so') (ms := reps st N) ⟨ins_eq, by omega⟩ ⟨ins_fresh hn' hsb, by omega⟩ ?_
    rw [decide_eq_true hse]
    refine ifF (x_end ?_)
    have e₃ : Ext τ.heap (τ.heap.ins sb (.list (so'.map .int))) := Ext.ins' hsb
    refine x_asg (w_filterR (σ := ⟨τ.loc, τ.heap.ins sb (.list (so'.map .int))⟩) (x := "name") (fun v => later st o v) ((lc "many" (by decide)).trans lm) (by omega) (fun v hv σ' K e lk' lv k => ?_) fun a H' fa ha e' => ?_)
    · have hro' := e _ _ (e₃ _ _ hro)
      have hs' := e _ _ (e₃ _ _ (keep kn _ _ hs))
      have lo := (lk' "order" (by decide)).trans l₂
      have ls' := (lk' "stands" (by decide)).trans ((lc "stands" (by decide)).trans ls)
      have hin : ∀ {v}, v ∈ rangeL 0 N → stf st v ∈ o := fun {v} hv => (hall _).2 (reps_mem.2 ⟨so.rng _ hv, so.idem _ hv⟩)
      have ⟨a, b⟩ := range_mem.1 hv
      have hnt : nt v ∈ rangeL 0 N := by
        have := nt_in (h := h) a (by rw [← eN]; exact b)
        rw [← eN] at this
        exact range_mem.2 this
      refine cs_one <| c_cmp <| w_m1 <| w_var lo <| cal_list hro' (by simp) <| w_sub <| w_var ls' <| w_var lv <| st_sub hs' so.len (by omega) hv ⟨_, hro', b_index (by omega) (hin hv) ?_⟩
      refine w_m1 <| w_var lo <| cal_list hro' (by simp) <| w_sub <| w_var ls' <| w_bin <| w_var lv <| w_const <| i_xor ?_
      rw [nt_eq]
      exact st_sub hs' so.len (by omega) hnt ⟨_, hro', b_index (by omega) (hin hnt) (k _ Ext.rfl)⟩
    · have hlf : ((rangeL 0 N).filter (fun v => later st o v)).length ≤ N := by
        have := List.length_filter_le (fun v => later st o v) (rangeL 0 N); rw [range_len] at this; exact this
      have hd' : H' da = some (.list (ds.map pairOf)) := e' _ _ (e₃ _ _ (keep kn _ _ hd))
      have ld' : ((AS.set ⟨τ.loc, H'⟩ "held" (.ref a)).loc "demands") = some (.ref da) := (set_ne (by decide)).trans ((lc "demands" (by decide)).trans ld)
      refine x_ret (w_cmp (w_f2 (w_var ld' (w_var rfl (unmet_spec (n := n + 3) L hd' ha (by omega) (by omega) fun H₂ b fb e₂ hb => ?_)))))
      have em := order_meets hi so hi' df (fun k m => (hall k).2 m) (o := o) fun i j d => (od.top i (by rw [show Sr.ks { y with rdy := .ref R } = reps st N from yk]; exact (so.told_in hi' _ d).1) j ((yD i j).2 d) ((hall j).2 (so.told_in hi' _ d).2)).2
      rw [em] at hb
      refine w_list (ws_nil fun d hd₂ => eq_refs (ns := []) (ms := []) ⟨ins_fresh hb hd₂, by decide⟩ ⟨ins_eq, by decide⟩ ?_)
      rw [decide_eq_true rfl]
      exact q _
end Mine

end

section
open PySem PySem.W PyProof.Rows PySem.Calls
set_option Elab.async false
set_option backward.match.sparseCases false
set_option maxRecDepth 100000
namespace Mine
noncomputable def law2F : Fn := ⟨["script"], none, [], [
  .assign (.name "cells") (.list [(.const (.int 24)), (.const (.int 42)), (.const (.int 12)), (.const (.int 49)), (.const (.int 48)), (.const (.int 31)), (.const (.int 8)), (.const (.int 27))]),
  .forS (.name "place") (.pcall .range [(.pcall .len [(.var "script")])]) [
    .augSub (.var "cells") (.bin .Mod (.var "place") (.const (.int 8))) .Add (.sub (.var "script") (.var "place"))],
  .assign (.name "many") (.bin .Add (.const (.int 4)) (.bin .Mult (.const (.int 2)) (.bin .Mod (.bin .Add (.pcall .sum [(.var "script")]) (.const (.int 2))) (.const (.int 3))))),
  .assign (.name "demands") (.comp ["cell"] (.tup [(.bin .Mod (.var "cell") (.var "many")), (.bin .Mod (.bin .FloorDiv (.var "cell") (.var "many")) (.var "many"))]) (.name "cell") (.var "cells") [] []),
  .assign (.name "steps") (.list []),
  .forS (.tup ["one", "other"]) (.var "demands") [
    .expr (.meth (.var "steps") "extend" [(.list [(.tup [(.bin .BitXor (.var "one") (.const (.int 1))), (.var "other")]), (.tup [(.bin .BitXor (.var "other") (.const (.int 1))), (.var "one")])])])],
  .assign (.name "stands") (.pcall .list [(.pcall .range [(.var "many")])]),
  .assign (.tup ["names", "told", "ring"]) (.tup [(.var "stands"), (.var "steps"), (.var "stands")]),
  .forS (.name "turn") (.pcall .range [(.var "many")]) turnB,
  .ifS (.cmp .IsNot (.var "ring") (.const .none)) [
    .ret (.const (.bool false))] [],
  .ifS (.cmp .NotEq (.comp ["name"] (.var "name") (.name "name") (.pcall .range [(.var "many")]) [(.cmp .Eq (.sub (.var "stands") (.var "name")) (.sub (.var "stands") (.bin .BitXor (.var "name") (.const (.int 1)))))] []) (.list [])) [
    .forS (.name "choice") (.pcall .range [(.bin .Pow (.const (.int 2)) (.bin .FloorDiv (.var "many") (.const (.int 2))))]) choiceB,
    .ret (.const (.bool true))] [],
  .assign (.name "sorter") (.fcall 148 [(.var "names"), (.var "told")]),
  .expr (.meth (.var "sorter") "prepare" []),
  .assign (.name "order") (.list []),
  .forS (.name "name") (.var "names") orderB,
  .ifS (.cmp .NotEq (.pcall .sorted [(.var "order")]) (.var "names")) [
    .ret (.const (.bool false))] [],
  .assign (.name "held") (.comp ["name"] (.var "name") (.name "name") (.pcall .range [(.var "many")]) [(.cmp .Gt (.meth (.var "order") "index" [(.sub (.var "stands") (.var "name"))]) (.meth (.var "order") "index" [(.sub (.var "stands") (.bin .BitXor (.var "name") (.const (.int 1))))]))] []),
  .ret (.cmp .Eq (.fcall 153 [(.var "demands"), (.var "held")]) (.list []))]⟩
variable {T : Tb} {Q : VK} {X : AS → Prop} {F : FK} {σ σ₁ τ : AS} {n N c : Nat} {ct : CT} {x : Sr} {H H' H₀ : Hp} {st cs : List Int} {es ds : List (Int × Int)} {ta sa da na oa ca b : Addr} {v m i j : Int} {mid hs : List Int} {K : Bool → AS → Prop} {r : List MS}

noncomputable def demL (N : Nat) (cs : List Int) : List (Int × Int) := cs.map fun c => (c.fmod N, (c.fdiv N).fmod N)
theorem dem_in (hp : 0 < N) : In (demL N cs) N := by
  rintro p m
  obtain ⟨c, _, rfl⟩ := List.mem_map.1 m
  have hp : (0 : Int) < (N : Int) := by omega
  exact ⟨range_mem.2 (fmod_bd _ hp), range_mem.2 (fmod_bd _ hp)⟩
theorem i_mul {a b : Int} (h₁ : a.natAbs < 2 ^ 30) (h₂ : b.natAbs < 2 ^ 30) (h : Q (.int (a * b)) σ) : binW .Mult (.int a) (.int b) Q σ := ⟨h₁, h₂, h⟩

theorem w_demands (hp : 0 < N) (lc : σ.loc "cells" = some (.ref ca)) (lm : σ.loc "many" = some (.int N)) (hc : σ.heap ca = some (.list (cs.map .int))) (hl : cs.length < 1000)
    (q : ∀ a H', σ.heap a = none → H' a = some (.list ((demL N cs).map pairOf)) → Ext σ.heap H' → Q (.ref a) ⟨σ.loc, H'⟩) :
    evalW T ct (.comp ["cell"] (.tup [(.bin .Mod (.var "cell") (.var "many")), (.bin .Mod (.bin .FloorDiv (.var "cell") (.var "many")) (.var "many"))]) (.name "cell") (.var "cells") [] []) Q σ := by
  have hn : (N : Int) ≠ 0 := by omega
  refine w_comp (w_var lc (i_list hc (lp_gen (σ₁ := σ) (fun c => [pairOf (c.fmod N, (c.fdiv N).fmod N)]) (fun τ e => e _ _ hc) ?_ ?_)))
  · intro pre v post τ k e h₁ h₂ hk
    have hp : (pre.flatMap fun c : Int => [pairOf (c.fmod N, (c.fdiv N).fmod N)]).length < 1000000 := by
      have := flat_len (f := fun c : Int => [pairOf (c.fmod N, (c.fdiv N).fmod N)]) (fun v => by simp) pre
      have := pre_le e; omega
    have r₃ : ∀ y, y ∉ ["cell"] → (τ.set "cell" (AV.int v)).loc y = σ.loc y := fun y hy => (set_ne (ne_mem hy (.head _))).trans (h₂ y hy)
    have hk' := hk (τ.set "cell" (AV.int v)) h₁ r₃
    have l₁ := (r₃ "many" (by decide)).trans lm
    refine bt_name <| cs_nil <| ifT <| cw_nil <| w_tup <| ws_cons <| w_bin <| w_var rfl <| w_var l₁ <| i_mod hn <| ws_cons <| w_bin <| w_bin <| w_var rfl <| w_var l₁ <| i_div hn <| w_var l₁ <| i_mod hn <| ws_nil ⟨hp, hk'⟩
  · intro τ e a ha
    rw [flat_sing]
    refine q a _ (e.none ha) (ins_eq.trans ?_) (e.ins (e.none ha))
    rw [demL, List.map_map]; rfl

/-- the steps -/
theorem steps2 (l₁ : σ.loc "demands" = some (.ref da)) (l₂ : σ.loc "steps" = some (.ref sa)) (hd : σ.heap da = some (.list (ds.map pairOf))) (hs : σ.heap sa = some (.list [])) (hn : da ≠ sa) (dl : ds.length < 1000)
    (q : ∀ τ : AS, τ.heap sa = some (.list ((stepsOf ds).map pairOf)) → Fr (· = sa) σ.heap τ.heap → (∀ z, z ∉ ["one", "other"] → τ.loc z = σ.loc z) → execsW T ct r F τ) :
    execsW T ct (.forS (.tup ["one", "other"]) (.var "demands") [
    .expr (.meth (.var "steps") "extend" [(.list [(.tup [(.bin .BitXor (.var "one") (.const (.int 1))), (.var "other")]), (.tup [(.bin .BitXor (.var "other") (.const (.int 1))), (.var "one")])])])] :: r) F σ := by
  refine x_for (w_var l₁ (i_list hd ?_))
  refine for_map (fun pre τ => τ.heap sa = some (.list ((stepsOf pre).map pairOf)) ∧ Fr (· = sa) σ.heap τ.heap ∧ ∀ z, z ∉ ["one", "other"] → τ.loc z = σ.loc z) ⟨hs, Fr.rfl, fun _ _ => rfl⟩ (fun l τ h => h.2.1 _ _ hd hn) ?_ (by rintro τ ⟨a, b, c⟩; exact q τ a b c)
  rintro pre ⟨u, w⟩ post τ K e ⟨h, fr, lc⟩ hK
  refine ⟨[.int u, .int w], rfl, rfl, ?_⟩
  have lk : ∀ z, z ∉ ["one", "other"] → ((τ.set "one" (.int u)).set "other" (.int w)).loc z = σ.loc z := fun z hz => (set_ne (ne_mem hz (.tail _ (.head _)))).trans ((set_ne (ne_mem hz (.head _))).trans (lc z hz))
  have hl : ((stepsOf pre).map pairOf).length < 1000000 := by
    have : (stepsOf pre).length ≤ 2 * pre.length := flat_bd fun v _ => Nat.le_refl _
    have := pre_le e
    rw [List.length_map]; omega
  show execsW T ct _ _ ((τ.set "one" (.int u)).set "other" (.int w))
  refine x_expr <| w_m1 <| w_var ((lk "steps" (by decide)).trans l₂) <| cal_list h (by simp) <| w_list <| ws_cons <| w_tup <| ws_cons <| w_bin <| w_var rfl <| w_const <| i_xor <| ws_cons <| w_var rfl <| ws_nil <| ws_cons <| w_tup <| ws_cons <| w_bin <| w_var rfl <| w_const <| i_xor <| ws_cons <| w_var rfl <| ws_nil <| ws_nil fun a ha => ⟨_, ins_fresh h ha, b_extL hl ins_eq (by simp) (x_nil (hK .next _ ⟨?_, ?_, lk⟩))⟩
  · have ea : (stepsOf (pre ++ [(u, w)])) = stepsOf pre ++ [(nt u, w), (nt w, u)] := by
      unfold stepsOf; rw [List.flatMap_append, List.flatMap_singleton]
    rw [ea, List.map_append, ← nt_eq, ← nt_eq]
    exact ins_eq
  · exact fun p o e k => ins_get k (ins_fresh (fr p o e k) ha)

theorem law2_ok (L : Lib2 T) {a : Addr} {ns : List Int} (hn : ns.length ≤ 63) :
    execsW T (callW T (n + 4)) law2F.body (fun fl _ => fl = .ret (.bool true)) ⟨fun y => [("script", AV.ref a)].lookup y, fun b => if b = a then some (.script ns) else none⟩ := by
  have hsc : (fun b => if b = a then some (AO.script ns) else none : Hp) a = some (.script ns) := if_pos rfl
  refine x_asg <| w_list <| ws_cons <| w_const <| ws_cons <| w_const <| ws_cons <| w_const <| ws_cons <| w_const <| ws_cons <| w_const <| ws_cons <| w_const <| ws_cons <| w_const <| ws_cons <| w_const <| ws_nil fun ca hca => ?_
  refine cells_loop (cs := [24, 42, 12, 49, 48, 31, 8, 27]) (a := a) (ca := ca) (ns := ns) (by omega) rfl rfl (ins_fresh hsc hca) ins_eq rfl fun τ cs hcs hc fr lc => ?_
  have hac : a ≠ ca := ne_fresh hsc hca
  have hs₁ : τ.heap a = some (.script ns) := fr _ _ (ins_fresh hsc hca) hac
  obtain ⟨b₁, b₂⟩ := fmod_bd (ns.sum + 2) (s := 3) (by decide)
  refine x_asg <| w_bin <| w_const <| w_bin <| w_const <| w_bin <| w_bin <| w_p1 <| w_var (lc "script" (by decide)) <| p_sum hs₁ (by omega) <| w_const <| i_add <| w_const <| i_mod (by decide) <| i_mul (by decide) (by omega) <| i_add ?_
  obtain ⟨h, N, eN, eNh, hN⟩ : ∃ h N : Nat, 4 + 2 * (ns.sum + 2).fmod 3 = (N : Int) ∧ N = 2 * h ∧ 4 ≤ N ∧ N ≤ 8 := ⟨(2 + (ns.sum + 2).fmod 3).toNat, (4 + 2 * (ns.sum + 2).fmod 3).toNat, by omega, by omega, by omega⟩
  rw [eN]
  clear eN b₁ b₂
  have l₁ : (τ.set "many" (.int N)).loc "cells" = some (.ref ca) := (set_ne (by decide)).trans (lc "cells" (by decide))
  refine x_asg (w_demands (σ := τ.set "many" (.int N)) (N := N) (by omega) l₁ rfl hc (by omega) fun da H₂ _ hda e₂ => ?_)
  have hi : In (demL N cs) N := dem_in (by omega)
  have dl : (demL N cs).length = 8 := by unfold demL; rw [List.length_map]; exact hcs
  refine x_asg (w_list (ws_nil fun sa hsa => ?_))
  refine steps2 (da := da) (sa := sa) (ds := demL N cs) rfl rfl (ins_fresh hda hsa) ins_eq (ne_fresh hda hsa) (by omega) fun τ₃ hs₃ fr₃ lc₃ => ?_
  have hd₃ : τ₃.heap da = some (.list ((demL N cs).map pairOf)) := fr₃ _ _ (ins_fresh hda hsa) (ne_fresh hda hsa)
  have m₃ : τ₃.loc "many" = some (.int N) := lc₃ _ (by decide)
  refine x_asg <| w_p1 <| w_p1 <| w_var m₃ <| p_rng (by omega) <| p_listR (by omega) fun ta hta => ?_
  have t₃ : ∀ v, (τ₃.set "stands" v).loc "steps" = some (.ref sa) := fun v => (set_ne (by decide)).trans (lc₃ _ (by decide))
  refine x_tup (w_tup (ws_cons (w_var rfl (ws_cons (w_var (t₃ _) (ws_cons (w_var rfl (ws_nil ⟨_, rfl, rfl, ?_⟩))))))))
  have es₃ := ins_fresh hs₃ hta (o := .list ((rangeL 0 N).map .int))
  refine turns_ok (n := n) (N := N) (es := stepsOf (demL N cs)) (sa := sa) (l₀ := τ₃.loc) (H₀ := τ₃.heap.ins ta (.list ((rangeL 0 N).map .int))) L (by omega) (by omega) (steps_in eNh hi) ?_ m₃ (lc₃ _ (by decide)) es₃ ?_ ?_
  · have : (stepsOf (demL N cs)).length ≤ 2 * (demL N cs).length := flat_bd fun v _ => Nat.le_refl _
    omega
  · refine ⟨⟨rangeL 0 N, ta, st_start, rfl, ins_eq, .inl ⟨ta, rfl, ?_⟩⟩, Ext.rfl, fun z hz => ?_⟩
    · have := reps_len (st := rangeL 0 N) (N := N); omega
    · exact (set_ne (ne_mem hz (.tail _ (.tail _ (.tail _ (.head _)))))).trans ((set_ne (ne_mem hz (.tail _ (.tail _ (.head _))))).trans ((set_ne (ne_mem hz (.tail _ (.head _)))).trans (set_ne (ne_mem hz (.tail _ (.tail _ (.tail _ (.tail _ (.head _)))))))))
  · intro τ₅ st ta' na oa so ls hts lr ac ln lt hna hoa ext lc₅
    have m₅ := (lc₅ "many" (by decide)).trans m₃
    have d₅ : τ₅.loc "demands" = some (.ref da) := (lc₅ "demands" (by decide)).trans ((lc₃ "demands" (by decide)).trans rfl)
    have hd₅ := ext _ _ (ins_fresh hd₃ hta (o := .list ((rangeL 0 N).map .int)))
    refine x_if (c_cmp (w_var lr (w_const (isnot_nn (ifF (x_end ?_))))))
    refine x_if (same_chk (h := h) eNh ls m₅ hts so.len (by omega) fun H₆ e₆ => ?_)
    refine ifB (fun q => ?_) fun q => x_end ?_
    · have hne : (rangeL 0 N).filter (fun v => stf st v == stf st (nt v)) ≠ [] := fun e => by rw [e] at q; cases q
      obtain ⟨v, hv⟩ := List.exists_mem_of_ne_nil _ hne
      rw [List.mem_filter, beq_iff_eq] at hv
      have hnt : nt v ∈ rangeL 0 N := by
        have ⟨a, b⟩ := range_mem.1 hv.1
        have := nt_in (h := h) a (by rw [← eNh]; exact b)
        rw [← eNh] at this
        exact range_mem.2 this
      refine none_ok (σ := ⟨τ₅.loc, H₆⟩) (n := n + 3) L (h := h) (da := da) (ds := demL N cs) (v := v) eNh (by omega) m₅ d₅ (e₆ _ _ hd₅) (by omega) hi ?_ fun _ => rfl
      have := so.mr v hv.1
      rw [hv.2] at this
      exact this.trans (so.mr _ hnt).symm
    · have hnil : (rangeL 0 N).filter (fun v => stf st v == stf st (nt v)) = [] := by
        rw [Bool.not_eq_false'] at q; exact of_decide_eq_true q
      rw [List.filter_eq_nil_iff] at hnil
      refine order_ok (σ := ⟨τ₅.loc, H₆⟩) (n := n) L (h := h) (da := da) (ta := ta') (na := na) (oa := oa) (ds := demL N cs) (st := st) eNh (by omega) m₅ d₅ ls ln lt (e₆ _ _ hd₅) (e₆ _ _ hts) (e₆ _ _ hna) (e₆ _ _ hoa) (by omega) hi so ac (fun v hv e => hnil v hv (beq_iff_eq.2 e)) fun _ => rfl
end Mine

end

section
open PySem PySem.W PyProof.Rows PySem.Calls
set_option Elab.async false
set_option backward.match.sparseCases false
set_option maxRecDepth 100000
namespace Mine
noncomputable def nmL : List String := ["script","cells","place","size","steps","ahead","turn","first","second","name","rings","x","free","sorter","left","gone","thing","record","cell","old","new","book","lost","after","heir","links","ring","todo","row","group","append","extend","pop","add","prepare","get_ready","done","_find_cycle","_get_nodeinfo","_node2info","_ready_nodes","_npassedout","_nfinished","node","npredecessors","successors","__next__","self","graph","predecessors","result","pred","pred_info","nodeinfo","i","cycle","n2i","nodes","stat","successor","successor_info","stack","itstack","seen","node2stacki","get","values","clear","range","len","sum","min","max","sorted","list","tuple","set","iter","type","int","_NodeInfo","TopologicalSorter","CycleError","_law_steps","_law_goes","_law_without","_law_told","_law_unmet","StopIteration","_NODE_OUT","_NODE_DONE","many","demands","one","other","stands","names","told","isinstance","count","k","choice","held","order","index","ValueError","a","b","__init__","bool","AssertionError"]
noncomputable def nmF (x : Str) : Option String := nmL.find? fun n => Str.ofString n == x
theorem nmL_ok : ∀ y ∈ nmL, (Str.ofString y == ("__classdict__" : Str)) = false := by decide +kernel
theorem nmF_ok (x : Str) (y : String) (h : nmF x = some y) : Str.ofString y = x ∧ (x == ("__classdict__" : Str)) = false := by
  have e : Str.ofString y = x := by have := List.find?_some h; exact beq_iff_eq.1 this
  exact ⟨e, e ▸ nmL_ok y (List.mem_of_find?_eq_some h)⟩

/-- a table of names -/
noncomputable def gOf (l : List (String × GI)) (x : String) : Option GI := l.lookup x
theorem gOf_ok {K : Frag} : ∀ {l : List (String × GI)}, (∀ p ∈ l, gOk K p.1 p.2) → ∀ x g, gOf l x = some g → gOk K x g
  | [], _, x, g, h => by cases h
  | (y, g') :: l, hl, x, g, h => by
    unfold gOf at h
    rw [List.lookup_cons] at h
    by_cases e : x = y
    · subst e; rw [beq_self_eq_true] at h; cases h; exact hl (x, g') (.head _)
    · rw [beq_eq_false_iff_ne.2 e] at h; exact gOf_ok (fun p hp => hl p (.tail _ hp)) x g h
noncomputable def libG : List (String × GI) := [("len", .prim .len), ("range", .prim .range), ("sum", .prim .sum), ("min", .prim .min), ("max", .prim .max), ("sorted", .prim .sorted), ("list", .prim .list), ("tuple", .prim .tuple), ("set", .prim .set), ("iter", .prim .iter),
  ("_NodeInfo", .cls 40), ("TopologicalSorter", .cls 137), ("_NODE_OUT", .val (.int (-1))), ("_NODE_DONE", .val (.int (-2)))]
noncomputable def tMeth : List ((Addr × String) × Addr) := [((40, "__init__"), 36), ((137, "__init__"), 73), ((137, "_get_nodeinfo"), 80), ((137, "add"), 87), ((137, "prepare"), 92), ((137, "get_ready"), 99), ((137, "done"), 120), ((137, "_find_cycle"), 127)]
noncomputable def tAttrs (c : Addr) : List String := if c = 137 then ["_node2info", "_ready_nodes", "_npassedout", "_nfinished"] else []
noncomputable def tSlots (c : Addr) : Option (List String) := if c = 40 then some ["node", "npredecessors", "successors"] else none
noncomputable def libFn : List (Addr × Fn) := [(36, niInit), (73, tsInit), (80, getInfo), (87, addF), (92, prepF), (99, readyF), (120, doneF), (127, cycF)]
noncomputable def mkT (l : List (Addr × Fn)) : Tb := ⟨fun c m => tMeth.lookup (c, m), tAttrs, tSlots, fun f => l.lookup f⟩
end Mine

end

section
open PySem PySem.W PyProof.Rows PySem.Calls
set_option Elab.async false
set_option backward.match.sparseCases false
set_option maxRecDepth 100000
set_option maxHeartbeats 4000000
namespace Mine
theorem lookup_in {α β : Type} [BEq α] [LawfulBEq α] {k : α} {v : β} : ∀ {l : List (α × β)}, l.lookup k = some v → (k, v) ∈ l
  | (i, a) :: l, h => by
    rw [List.lookup_cons] at h
    cases e : k == i with
    | true => rw [e] at h; cases h; rw [eq_of_beq e]; exact .head _
    | false => rw [e] at h; exact .tail _ (lookup_in h)
theorem idx3 {a b c m : String} {k : Nat} (h : [a, b, c].idxOf? m = some k) : (m = a ∧ k = 0) ∨ (m = b ∧ k = 1) ∨ (m = c ∧ k = 2) := by
  unfold List.idxOf? at h
  simp only [List.findIdx?_cons, List.findIdx?_nil] at h
  by_cases e₁ : a = m
  · subst e₁; simp at h; exact .inl ⟨rfl, h.symm⟩
  · by_cases e₂ : b = m
    · subst e₂; simp [e₁] at h; exact .inr (.inl ⟨rfl, h.symm⟩)
    · by_cases e₃ : c = m
      · subst e₃; simp [e₁, e₂] at h; exact .inr (.inr ⟨rfl, h.symm⟩)
      · simp [e₁, e₂, e₃] at h

/-- what the written part of the heap must show -/
structure KOk (K : Frag) (gl : List (String × GI)) (fl : List (Addr × Fn)) (lawA : Addr) (lawF : Fn) : Prop where
  g : ∀ p ∈ gl, gOk K p.1 p.2
  c40 : ClsOk K 40
  c137 : ClsOk K 137
  at_ : ∀ m ∈ ["_node2info", "_ready_nodes", "_npassedout", "_nfinished"], findIn K (.ref 137) (Str.ofString m) = some none
  ad : (clsIn K 137).any (·.hasDict) = true
  s0 : SlotOk K 40 "node" 0 41
  s1 : SlotOk K 40 "npredecessors" 1 42
  s2 : SlotOk K 40 "successors" 2 43
  m : ∀ p ∈ tMeth, MethOk K p.1.1 p.1.2 p.2
  fn : ∀ p ∈ fl, fnOf K ⟨gOf gl, nmF⟩ "CycleError" p.1 = some p.2 ∨ fnOfD K ⟨gOf gl, nmF⟩ "CycleError" p.1 = some p.2
  law : fnOf K ⟨gOf gl, nmF⟩ "CycleError" lawA = some lawF
  lawN : nsIn K mainGlobals (Str.ofString "law") = some (some (.ref lawA))
  cyc : nsIn K mainGlobals (Str.ofString "CycleError") = some (some (.ref 55))
  stop : nsIn K mainGlobals (Str.ofString "StopIteration") = some none

theorem KOk.tb {K : Frag} {gl : List (String × GI)} {fl : List (Addr × Fn)} {lawA : Addr} {lawF : Fn} (h : KOk K gl fl lawA lawF) : TbOk K (mkT fl) := by
  refine ⟨fun c m hm => ?_, fun c ss m k hs hk => ?_, fun c m f hf => h.m ((c, m), f) (lookup_in hf)⟩
  · have hm : m ∈ tAttrs c := hm
    unfold tAttrs at hm
    split at hm
    · rename_i e; subst e; exact { h.c137 with no := h.at_ m hm, dict := h.ad }
    · cases hm
  · have hs : tSlots c = some ss := hs
    unfold tSlots at hs
    split at hs
    · rename_i e; subst e; cases hs
      rcases idx3 hk with ⟨rfl, rfl⟩ | ⟨rfl, rfl⟩ | ⟨rfl, rfl⟩
      · exact ⟨_, h.s0⟩
      · exact ⟨_, h.s1⟩
      · exact ⟨_, h.s2⟩
    · cases hs

theorem law_glue {K : Frag} {gl : List (String × GI)} {fl : List (Addr × Fn)} {lawA fa : Addr} {lawF : Fn} (h : KOk K gl fl lawA lawF) {C : Cx} (X : K.In C.s₁.heap) {mg mb : Str → Option Value} (G : C.s₁.heap.Ns mainGlobals mg) (B : C.s₁.heap.Ns builtinsNs mb) (hb : ∀ x : Str, x ≠ "__name__" → mb x = bootBuiltins x)
    (nl : C.s₁.heap.NoLimit) (ns : C.s₁.heap.NoSeer) (ht : C.prog.given.tree = none) {D : Addr} (OC : OwnCls (Str.ofString "CycleError") D [.type "ValueError", .type "Exception", .type "BaseException", .type "object"] "ValueError.__new__" mg C.s₁.heap)
    (hfa : mg (Str.ofString "law") = some (.ref fa)) {a : Addr} {is : List Int} (hl : ∃ o vs n, C.s₁.heap.get? a = some o ∧ o.cls = .type "list" ∧ o.data = .seq vs n ∧ IntsAre vs.toList is) {bs : List (String × AV)} (hbs : bindArgsA lawF [.ref a] = some bs)
    (hw : execsW (mkT fl) (callW (mkT fl) 10) lawF.body (fun fl _ => fl = .ret (.bool true)) ⟨fun x => bs.lookup x, fun b => if b = a then some (.script is) else none⟩)
    {R : Result → Shared → Prop} (hR : ∀ h t, (∀ b o, C.s₁.heap.get? b = some o → h.get? b = some o) → R (.ok (.ret (.bool true))) { C.s₁ with heap := h, toks := t }) :
    codeAny (model C.prog C.w) callerA (.call (.ref fa) ⟨[.ref a], []⟩) R C.s₁ := by
  have efa : fa = lawA := by
    have := mg_of X G h.lawN
    rw [hfa] at this; cases this; rfl
  subst efa
  have nm : ∀ x y, (⟨gOf gl, nmF⟩ : GT).nm x = some y → Str.ofString y = x ∧ (x == ("__classdict__" : Str)) = false := nmF_ok
  have ck : CxOk C := ⟨nl, ns, ht, by obtain ⟨mm, ⟨o, es, ep, e, _⟩, _⟩ := ns.mods; rw [e]; nofun⟩
  have gok : GlobOk C ⟨gOf gl, nmF⟩ := globOk_of X G B hb (gOf_ok h.g)
  have exc : ExcOk C 55 "CycleError" := excOk_of X G B hb h.cyc (by decide +kernel) PySem.F.excBase_ValueError OC h.stop
  have fok : ∀ f fn, (mkT fl).fn f = some fn → FnOk C ⟨gOf gl, nmF⟩ "CycleError" f fn := fun f fn e => by
    rcases h.fn (f, fn) (lookup_in e) with q | q
    · exact fnOk_of X nm q
    · exact fnOk_ofD X nm q
  have cs := call_sound ck X h.tb gok nm exc fok 10
  exact law_start ck nm (sound_stmts ⟨ck, X, h.tb, gok, nm, cs⟩ exc) (fnOk_of X nm h.law) hbs hl (by decide) hw hR
end Mine

end

section
open PySem PySem.W PyProof.Rows PySem.Calls
set_option Elab.async false
set_option backward.match.sparseCases false
set_option maxRecDepth 100000
set_option genInjectivity false
namespace Mine
/-- what is looked at of the heap behind the top -/
structure Ob where
  fn : List (Option Fn)
  vv : List (Option (Option Value))
  bs : List Bool
  ns : List (Option Nat)
  ob : List (Option Bool)
  vs : List (Option Value)
noncomputable def fragAt (h : Heap) (as : List Addr) : Frag := as.filterMap fun a => (h.get? a).map fun o => (a, o)
theorem fragAt_in {h : Heap} {as : List Addr} : (fragAt h as).In h := by
  intro a o e
  have := lookup_in e
  unfold fragAt at this
  obtain ⟨b, _, q⟩ := List.mem_filterMap.1 this
  cases hb : h.get? b with
  | none => rw [hb] at q; cases q
  | some x => rw [hb] at q; cases q; exact hb
theorem all_cons {α : Type} {P : α → Prop} {a : α} {l : List α} (h : P a) (k : ∀ p ∈ l, P p) : ∀ p ∈ a :: l, P p := fun p m => by
  rcases List.mem_cons.1 m with e | m
  · rw [e]; exact h
  · exact k p m
end Mine

end

section
open PySem PySem.W PyProof.Rows PySem.Calls
set_option Elab.async false
set_option backward.match.sparseCases false
set_option maxRecDepth 100000
set_option maxHeartbeats 4000000
namespace Mine
noncomputable def g2L : List (String × GI) := libG ++ [("isinstance", .prim .isinstance), ("_law_told", .fn 148), ("_law_unmet", .fn 153)]
noncomputable def f2L : List (Addr × Fn) := libFn ++ [(148, toldF), (153, unmetF)]
noncomputable def ob2 (K : Frag) : Ob := ⟨[fnOf K ⟨gOf g2L, nmF⟩ "CycleError" 36, fnOf K ⟨gOf g2L, nmF⟩ "CycleError" 80, fnOf K ⟨gOf g2L, nmF⟩ "CycleError" 87, fnOf K ⟨gOf g2L, nmF⟩ "CycleError" 92, fnOf K ⟨gOf g2L, nmF⟩ "CycleError" 99, fnOf K ⟨gOf g2L, nmF⟩ "CycleError" 120, fnOf K ⟨gOf g2L, nmF⟩ "CycleError" 127, fnOf K ⟨gOf g2L, nmF⟩ "CycleError" 148, fnOf K ⟨gOf g2L, nmF⟩ "CycleError" 153, fnOfD K ⟨gOf g2L, nmF⟩ "CycleError" 73, fnOf K ⟨gOf g2L, nmF⟩ "CycleError" 158], [findIn K (.ref 40) "__getattribute__", findIn K (.ref 40) "__getattr__", findIn K (.ref 40) "__setattr__", findIn K (.ref 137) "__getattribute__", findIn K (.ref 137) "__getattr__", findIn K (.ref 137) "__setattr__", findIn K (.ref 137) (Str.ofString "_node2info"), findIn K (.ref 137) (Str.ofString "_ready_nodes"), findIn K (.ref 137) (Str.ofString "_npassedout"), findIn K (.ref 137) (Str.ofString "_nfinished"), findIn K (.ref 40) (Str.ofString "node"), specialIn K (.ref 41) "__get__", findIn K (.ref 40) (Str.ofString "npredecessors"), specialIn K (.ref 42) "__get__", findIn K (.ref 40) (Str.ofString "successors"), specialIn K (.ref 43) "__get__", findIn K (.ref 40) (Str.ofString "__init__"), specialIn K (.ref 36) "__get__", findIn K (.ref 137) (Str.ofString "__init__"), specialIn K (.ref 73) "__get__", findIn K (.ref 137) (Str.ofString "_get_nodeinfo"), specialIn K (.ref 80) "__get__", findIn K (.ref 137) (Str.ofString "add"), specialIn K (.ref 87) "__get__", findIn K (.ref 137) (Str.ofString "prepare"), specialIn K (.ref 92) "__get__", findIn K (.ref 137) (Str.ofString "get_ready"), specialIn K (.ref 99) "__get__", findIn K (.ref 137) (Str.ofString "done"), specialIn K (.ref 120) "__get__", findIn K (.ref 137) (Str.ofString "_find_cycle"), specialIn K (.ref 127) "__get__", nsIn K mainGlobals (Str.ofString "len"), nsIn K mainGlobals (Str.ofString "range"), nsIn K mainGlobals (Str.ofString "sum"), nsIn K mainGlobals (Str.ofString "min"), nsIn K mainGlobals (Str.ofString "max"), nsIn K mainGlobals (Str.ofString "sorted"), nsIn K mainGlobals (Str.ofString "list"), nsIn K mainGlobals (Str.ofString "tuple"), nsIn K mainGlobals (Str.ofString "set"), nsIn K mainGlobals (Str.ofString "iter"), nsIn K mainGlobals (Str.ofString "_NodeInfo"), nsIn K mainGlobals (Str.ofString "TopologicalSorter"), nsIn K mainGlobals (Str.ofString "_NODE_OUT"), nsIn K mainGlobals (Str.ofString "_NODE_DONE"), nsIn K mainGlobals (Str.ofString "isinstance"), nsIn K mainGlobals (Str.ofString "_law_told"), nsIn K mainGlobals (Str.ofString "_law_unmet"), nsIn K mainGlobals (Str.ofString "law"), nsIn K mainGlobals (Str.ofString "CycleError"), nsIn K mainGlobals (Str.ofString "StopIteration")], [plainOver K 40, makesIn K 40, plainOver K 137, makesIn K 137, (clsIn K 137).any (·.hasDict)], [slotIn K 41 40, slotIn K 42 40, slotIn K 43 40], [takesIn K (.ref 41), takesIn K (.ref 42), takesIn K (.ref 43), takesIn K (.ref 36), takesIn K (.ref 73), takesIn K (.ref 80), takesIn K (.ref 87), takesIn K (.ref 92), takesIn K (.ref 99), takesIn K (.ref 120), takesIn K (.ref 127)], [typeIn K (.ref 41), typeIn K (.ref 42), typeIn K (.ref 43), typeIn K (.ref 36), typeIn K (.ref 73), typeIn K (.ref 80), typeIn K (.ref 87), typeIn K (.ref 92), typeIn K (.ref 99), typeIn K (.ref 120), typeIn K (.ref 127)]⟩
noncomputable def ob2V : Ob := ⟨[some niInit, some getInfo, some addF, some prepF, some readyF, some doneF, some cycF, some toldF, some unmetF, some tsInit, some law2F], [some (some (.builtin "object.__getattribute__")), some none, some (some (.builtin "object.__setattr__")), some (some (.builtin "object.__getattribute__")), some none, some (some (.builtin "object.__setattr__")), some none, some none, some none, some none, some (some (.ref 41)), some (some (.builtin "member_descriptor.__get__")), some (some (.ref 42)), some (some (.builtin "member_descriptor.__get__")), some (some (.ref 43)), some (some (.builtin "member_descriptor.__get__")), some (some (.ref 36)), some (some (.builtin "function.__get__")), some (some (.ref 73)), some (some (.builtin "function.__get__")), some (some (.ref 80)), some (some (.builtin "function.__get__")), some (some (.ref 87)), some (some (.builtin "function.__get__")), some (some (.ref 92)), some (some (.builtin "function.__get__")), some (some (.ref 99)), some (some (.builtin "function.__get__")), some (some (.ref 120)), some (some (.builtin "function.__get__")), some (some (.ref 127)), some (some (.builtin "function.__get__")), some none, some none, some none, some none, some none, some none, some none, some none, some none, some none, some (some (.ref 40)), some (some (.ref 137)), some (some (.int (-1) 197)), some (some (.int (-2) 200)), some none, some (some (.ref 148)), some (some (.ref 153)), some (some (.ref 158)), some (some (.ref 55)), some none], [true, true, true, true, true], [some 0, some 1, some 2], [some true, some true, some true, some false, some false, some false, some false, some false, some false, some false, some false], [some (.type "member_descriptor"), some (.type "member_descriptor"), some (.type "member_descriptor"), some (.type "function"), some (.type "function"), some (.type "function"), some (.type "function"), some (.type "function"), some (.type "function"), some (.type "function"), some (.type "function")]⟩
noncomputable def adr2 : List Addr := [2, 3, 6, 15, 17, 18, 20, 21, 29, 30, 32, 33, 35, 36, 37, 39, 40, 41, 42, 43, 46, 53, 54, 55, 56, 66, 67, 69, 70, 72, 73, 74, 76, 77, 79, 80, 81, 83, 84, 86, 87, 88, 91, 92, 93, 95, 96, 98, 99, 100, 102, 103, 105, 106, 107, 109, 110, 112, 113, 114, 116, 117, 119, 120, 121, 123, 124, 126, 127, 128, 130, 131, 133, 134, 135, 136, 137, 138, 139, 142, 144, 145, 147, 148, 149, 152, 153, 154, 157, 158]
noncomputable def hook2 : Hook := ⟨Ob, fun s => ob2 (fragAt s.heap adr2), fun _ => ob2V, fun _ h => ∃ K : Frag, K.In h ∧ ob2 K = ob2V, fun _ _ e => ⟨_, fragAt_in, e⟩, fun _ _ _ ⟨K, a, b⟩ k => ⟨K, a.keeps k, b⟩⟩
theorem ok2 {K : Frag} (e : ob2 K = ob2V) : KOk K g2L f2L 158 law2F :=
  have c40 : ClsOk K 40 := ⟨(congrArg (fun o : Ob => o.vv.getD 0 none) e), (congrArg (fun o : Ob => o.vv.getD 1 none) e), (congrArg (fun o : Ob => o.vv.getD 2 none) e), (congrArg (fun o : Ob => o.bs.getD 0 false) e), (congrArg (fun o : Ob => o.bs.getD 1 false) e)⟩
  have c137 : ClsOk K 137 := ⟨(congrArg (fun o : Ob => o.vv.getD 3 none) e), (congrArg (fun o : Ob => o.vv.getD 4 none) e), (congrArg (fun o : Ob => o.vv.getD 5 none) e), (congrArg (fun o : Ob => o.bs.getD 2 false) e), (congrArg (fun o : Ob => o.bs.getD 3 false) e)⟩
  ⟨all_cons ⟨(congrArg (fun o : Ob => o.vv.getD 32 none) e), by kernel_rfl, by decide +kernel⟩ <| all_cons ⟨(congrArg (fun o : Ob => o.vv.getD 33 none) e), by kernel_rfl, by decide +kernel⟩ <| all_cons ⟨(congrArg (fun o : Ob => o.vv.getD 34 none) e), by kernel_rfl, by decide +kernel⟩ <| all_cons ⟨(congrArg (fun o : Ob => o.vv.getD 35 none) e), by kernel_rfl, by decide +kernel⟩ <| all_cons ⟨(congrArg (fun o : Ob => o.vv.getD 36 none) e), by kernel_rfl, by decide +kernel⟩ <| all_cons ⟨(congrArg (fun o : Ob => o.vv.getD 37 none) e), by kernel_rfl, by decide +kernel⟩ <| all_cons ⟨(congrArg (fun o : Ob => o.vv.getD 38 none) e), by kernel_rfl, by decide +kernel⟩ <| all_cons ⟨(congrArg (fun o : Ob => o.vv.getD 39 none) e), by kernel_rfl, by decide +kernel⟩ <| all_cons ⟨(congrArg (fun o : Ob => o.vv.getD 40 none) e), by kernel_rfl, by decide +kernel⟩ <| all_cons ⟨(congrArg (fun o : Ob => o.vv.getD 41 none) e), by kernel_rfl, by decide +kernel⟩ <| all_cons (congrArg (fun o : Ob => o.vv.getD 42 none) e) <| all_cons (congrArg (fun o : Ob => o.vv.getD 43 none) e) <| all_cons ⟨_, (congrArg (fun o : Ob => o.vv.getD 44 none) e)⟩ <| all_cons ⟨_, (congrArg (fun o : Ob => o.vv.getD 45 none) e)⟩ <| all_cons ⟨(congrArg (fun o : Ob => o.vv.getD 46 none) e), by kernel_rfl, by decide +kernel⟩ <| all_cons (congrArg (fun o : Ob => o.vv.getD 47 none) e) <| all_cons (congrArg (fun o : Ob => o.vv.getD 48 none) e) <| fun _ h => absurd h List.not_mem_nil, c40, c137, all_cons (congrArg (fun o : Ob => o.vv.getD 6 none) e) <| all_cons (congrArg (fun o : Ob => o.vv.getD 7 none) e) <| all_cons (congrArg (fun o : Ob => o.vv.getD 8 none) e) <| all_cons (congrArg (fun o : Ob => o.vv.getD 9 none) e) <| fun _ h => absurd h List.not_mem_nil, (congrArg (fun o : Ob => o.bs.getD 4 false) e), ⟨c40, (congrArg (fun o : Ob => o.vv.getD 10 none) e), (congrArg (fun o : Ob => o.ns.getD 0 none) e), (congrArg (fun o : Ob => o.vv.getD 11 none) e), (congrArg (fun o : Ob => o.ob.getD 0 none) e), (congrArg (fun o : Ob => o.vs.getD 0 none) e), by decide⟩, ⟨c40, (congrArg (fun o : Ob => o.vv.getD 12 none) e), (congrArg (fun o : Ob => o.ns.getD 1 none) e), (congrArg (fun o : Ob => o.vv.getD 13 none) e), (congrArg (fun o : Ob => o.ob.getD 1 none) e), (congrArg (fun o : Ob => o.vs.getD 1 none) e), by decide⟩, ⟨c40, (congrArg (fun o : Ob => o.vv.getD 14 none) e), (congrArg (fun o : Ob => o.ns.getD 2 none) e), (congrArg (fun o : Ob => o.vv.getD 15 none) e), (congrArg (fun o : Ob => o.ob.getD 2 none) e), (congrArg (fun o : Ob => o.vs.getD 2 none) e), by decide⟩, all_cons ⟨c40, (congrArg (fun o : Ob => o.vv.getD 16 none) e), (congrArg (fun o : Ob => o.vs.getD 3 none) e), (congrArg (fun o : Ob => o.vv.getD 17 none) e), (congrArg (fun o : Ob => o.ob.getD 3 none) e), by decide +kernel⟩ <| all_cons ⟨c137, (congrArg (fun o : Ob => o.vv.getD 18 none) e), (congrArg (fun o : Ob => o.vs.getD 4 none) e), (congrArg (fun o : Ob => o.vv.getD 19 none) e), (congrArg (fun o : Ob => o.ob.getD 4 none) e), by decide +kernel⟩ <| all_cons ⟨c137, (congrArg (fun o : Ob => o.vv.getD 20 none) e), (congrArg (fun o : Ob => o.vs.getD 5 none) e), (congrArg (fun o : Ob => o.vv.getD 21 none) e), (congrArg (fun o : Ob => o.ob.getD 5 none) e), by decide +kernel⟩ <| all_cons ⟨c137, (congrArg (fun o : Ob => o.vv.getD 22 none) e), (congrArg (fun o : Ob => o.vs.getD 6 none) e), (congrArg (fun o : Ob => o.vv.getD 23 none) e), (congrArg (fun o : Ob => o.ob.getD 6 none) e), by decide +kernel⟩ <| all_cons ⟨c137, (congrArg (fun o : Ob => o.vv.getD 24 none) e), (congrArg (fun o : Ob => o.vs.getD 7 none) e), (congrArg (fun o : Ob => o.vv.getD 25 none) e), (congrArg (fun o : Ob => o.ob.getD 7 none) e), by decide +kernel⟩ <| all_cons ⟨c137, (congrArg (fun o : Ob => o.vv.getD 26 none) e), (congrArg (fun o : Ob => o.vs.getD 8 none) e), (congrArg (fun o : Ob => o.vv.getD 27 none) e), (congrArg (fun o : Ob => o.ob.getD 8 none) e), by decide +kernel⟩ <| all_cons ⟨c137, (congrArg (fun o : Ob => o.vv.getD 28 none) e), (congrArg (fun o : Ob => o.vs.getD 9 none) e), (congrArg (fun o : Ob => o.vv.getD 29 none) e), (congrArg (fun o : Ob => o.ob.getD 9 none) e), by decide +kernel⟩ <| all_cons ⟨c137, (congrArg (fun o : Ob => o.vv.getD 30 none) e), (congrArg (fun o : Ob => o.vs.getD 10 none) e), (congrArg (fun o : Ob => o.vv.getD 31 none) e), (congrArg (fun o : Ob => o.ob.getD 10 none) e), by decide +kernel⟩ <| fun _ h => absurd h List.not_mem_nil, all_cons (.inl (congrArg (fun o : Ob => o.fn.getD 0 none) e)) <| all_cons (.inr (congrArg (fun o : Ob => o.fn.getD 9 none) e)) <| all_cons (.inl (congrArg (fun o : Ob => o.fn.getD 1 none) e)) <| all_cons (.inl (congrArg (fun o : Ob => o.fn.getD 2 none) e)) <| all_cons (.inl (congrArg (fun o : Ob => o.fn.getD 3 none) e)) <| all_cons (.inl (congrArg (fun o : Ob => o.fn.getD 4 none) e)) <| all_cons (.inl (congrArg (fun o : Ob => o.fn.getD 5 none) e)) <| all_cons (.inl (congrArg (fun o : Ob => o.fn.getD 6 none) e)) <| all_cons (.inl (congrArg (fun o : Ob => o.fn.getD 7 none) e)) <| all_cons (.inl (congrArg (fun o : Ob => o.fn.getD 8 none) e)) <| fun _ h => absurd h List.not_mem_nil, (congrArg (fun o : Ob => o.fn.getD 10 none) e), (congrArg (fun o : Ob => o.vv.getD 49 none) e), (congrArg (fun o : Ob => o.vv.getD 50 none) e), (congrArg (fun o : Ob => o.vv.getD 51 none) e)⟩
end Mine

end

open PySem PySem.W PyProof.Rows PySem.Calls
set_option Elab.async false
set_option backward.match.sparseCases false
namespace Mine
theorem lib2 : Lib2 (mkT f2L) := ⟨⟨rfl, rfl, rfl, rfl, rfl, rfl, rfl, rfl, rfl, rfl, rfl, rfl, rfl, rfl, rfl, rfl, rfl, rfl, rfl⟩, rfl, rfl⟩
theorem post_ok (a b : List WData) : (WShape.has [] (.bool true) .bool && (WTm.eq .res (.lit (.bool true))).holds [] { args := a, res := some (.bool true), after := b }) = true := by kernel_rfl
set_option maxRecDepth 100000 in
theorem said2 : OpenLaw.wellSaid PySem.Challenge.rw_dm0131_02 = true := by kernel_rfl
end Mine
open Mine
set_option maxRecDepth 100000
set_option maxHeartbeats 8000000
theorem PySem.Challenge.cw_dm0131_02_holds : PySem.Challenge.rw_dm0131_02.Holds := by
  w_on
  refine holds_law said2 fun said => ?_
  o_head hook2
  (case hw => w_witness2)
  intro w s₀ s₁ mg mb G Y fa o pm cd doc dV kV ho hd hcd hD hmg hg args vals as hpre hlay hrd hwl hlo
  obtain ⟨K, KX, KE⟩ := Y
  refine Ground.open G ?_
  intro T B D TE TW
  clear hd hcd hD ho B D TE TW
  wrow_args hpre hlay hrd hwl hlo
  rename_i is _ _ _ _ _ _ _ a vs _ hL _ _ _ hI _ hlen _
  refine enter_call ?_
  obtain ⟨D, OC, _⟩ := T.ownAt (x := Str.ofString "CycleError") (newId := "ValueError.__new__") (bm := [.type "ValueError", .type "Exception", .type "BaseException", .type "object"]) (by kernel_rfl)
  refine law_glue (ok2 KE) (C := ⟨Challenge.rw_dm0131_02.row.prog, w, s₁⟩) KX T.g T.b T.builtins T.nolimit (T.seer (by kernel_rfl)) rfl OC.own hmg (a := a) (is := is) ?_ (bs := [("script", .ref a)]) rfl (law2_ok (n := 6) lib2 (by omega)) fun h t k => ?_
  · obtain ⟨o, h1, h2, n, h3⟩ := hL
    exact ⟨o, _, n, h1, h2, h3, hI⟩
  · exact GoodW.toG ⟨.inl ⟨.bool true, .bool true, [], rfl, fun cls => rfl, .bool true, post_ok _ _, fun _ => ⟨.nil, nofun⟩⟩, k, rfl, hg⟩
