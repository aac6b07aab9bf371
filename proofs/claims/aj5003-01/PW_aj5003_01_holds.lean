import PyProof.Rows.All
import Wide.All
import OpenK.AllK
import Wide.FinOn
import PySem.Challenge.RW_aj5003_01
set_option Elab.async false

-- ---------- Base ----------
set_option maxRecDepth 100000
set_option autoImplicit false
set_option linter.all false
namespace Mine
open PySem PySem.W PyProof.Rows PySem.Calls PySem.Spec

/-! ## plain data and how the heap bears it -/

inductive PV where
  | d (x : PyData)
  | o (v : Value)

mutual
def RD (h : Heap) : PyData → Value → Prop
  | .none, v => v = .none
  | .bool b, v => v = .bool b
  | .int i, v => ∃ t, v = .int i t
  | .str x, v => ∃ t, v = .str x t
  | .list xs, v => ∃ a vs, v = .ref a ∧ h.IsList a vs.toArray ∧ RDL h xs vs
  | .tuple xs, v => ∃ a vs, v = .ref a ∧ IsTup h a vs.toArray ∧ RDL h xs vs
  | .dict _, _ => False
def RDL (h : Heap) : List PyData → List Value → Prop
  | [], [] => True
  | x :: xs, v :: vs => RD h x v ∧ RDL h xs vs
  | _, _ => False
end

def RepV (h : Heap) : PV → Value → Prop
  | .d x, v => RD h x v
  | .o w, v => v = w
def RepL (h : Heap) : List PV → List Value → Prop
  | [], [] => True
  | p :: ps, v :: vs => RepV h p v ∧ RepL h ps vs
  | _, _ => False

def SeqKeeps (h h' : Heap) : Prop := ∀ b o, (∃ xs n, o.data = .seq xs n) → h.get? b = some o → h'.get? b = some o

mutual
theorem RD.keepsSeq {h h' : Heap} (hk : SeqKeeps h h') : ∀ (x : PyData) (v : Value), RD h x v → RD h' x v
  | .none, _, e => e
  | .bool _, _, e => e
  | .int _, _, e => e
  | .str _, _, e => e
  | .list xs, v, e => by
    obtain ⟨a, vs, hv, ⟨o, h1, h2, n, h3⟩, hr⟩ := e
    exact ⟨a, vs, hv, ⟨o, hk _ _ ⟨_, n, h3⟩ h1, h2, n, h3⟩, RDL.keepsSeq hk xs vs hr⟩
  | .tuple xs, v, e => by
    obtain ⟨a, vs, hv, ⟨o, h1, h2, n, h3⟩, hr⟩ := e
    exact ⟨a, vs, hv, ⟨o, hk _ _ ⟨_, n, h3⟩ h1, h2, n, h3⟩, RDL.keepsSeq hk xs vs hr⟩
  | .dict _, _, e => e.elim
theorem RDL.keepsSeq {h h' : Heap} (hk : SeqKeeps h h') : ∀ (xs : List PyData) (vs : List Value), RDL h xs vs → RDL h' xs vs
  | [], [], _ => trivial
  | x :: xs, v :: vs, e => ⟨RD.keepsSeq hk x v e.1, RDL.keepsSeq hk xs vs e.2⟩
  | [], _ :: _, e => e.elim
  | _ :: _, [], e => e.elim
end

theorem RepV.keepsSeq {h h' : Heap} (hk : SeqKeeps h h') : ∀ {p : PV} {v : Value}, RepV h p v → RepV h' p v
  | .d x, v, e => RD.keepsSeq hk x v e
  | .o _, _, e => e
theorem RepL.keepsSeq {h h' : Heap} (hk : SeqKeeps h h') : ∀ {ps : List PV} {vs : List Value}, RepL h ps vs → RepL h' ps vs
  | [], [], _ => trivial
  | _ :: _, _ :: _, e => ⟨RepV.keepsSeq hk e.1, RepL.keepsSeq hk e.2⟩
  | [], _ :: _, e => e.elim
  | _ :: _, [], e => e.elim

def Keeps (h h' : Heap) : Prop := ∀ b o, h.get? b = some o → h'.get? b = some o
theorem Keeps.refl (h : Heap) : Keeps h h := fun _ _ e => e
theorem Keeps.trans {h h' h'' : Heap} (a : Keeps h h') (b : Keeps h' h'') : Keeps h h'' := fun x o e => b x o (a x o e)
theorem Keeps.seq {h h' : Heap} (k : Keeps h h') : SeqKeeps h h' := fun b o _ e => k b o e
theorem Keeps.push (h : Heap) (o : Obj) : Keeps h (h.push o) := fun _ _ e => Heap.get?_push_of_some _ e

theorem RepL.length {h : Heap} : ∀ {ps : List PV} {vs : List Value}, RepL h ps vs → ps.length = vs.length
  | [], [], _ => rfl
  | _ :: _, _ :: _, e => congrArg (· + 1) (RepL.length e.2)
  | [], _ :: _, e => e.elim
  | _ :: _, [], e => e.elim
theorem RDL.length {h : Heap} : ∀ {ps : List PyData} {vs : List Value}, RDL h ps vs → ps.length = vs.length
  | [], [], _ => rfl
  | _ :: _, _ :: _, e => congrArg (· + 1) (RDL.length e.2)
  | [], _ :: _, e => e.elim
  | _ :: _, [], e => e.elim
theorem RDL.get {h : Heap} : ∀ {ps : List PyData} {vs : List Value} (i : Nat) {p : PyData}, RDL h ps vs → ps[i]? = some p → ∃ v, vs[i]? = some v ∧ RD h p v
  | [], _, i, _, _, e => by simp at e
  | _ :: _, [], _, _, e, _ => e.elim
  | x :: xs, v :: vs, 0, p, e, h => by simp at h; subst h; exact ⟨v, rfl, e.1⟩
  | x :: xs, v :: vs, i + 1, p, e, h => by
    simp only [List.getElem?_cons_succ] at h ⊢
    exact RDL.get i e.2 h

mutual
theorem RD.reads {h : Heap} : ∀ (x : PyData) (v : Value), RD h x v → ∃ as, Reads h v x as
  | .none, v, e => by obtain rfl : v = _ := e; exact ⟨_, .none⟩
  | .bool b, v, e => by obtain rfl : v = _ := e; exact ⟨_, .bool b⟩
  | .int i, v, e => by obtain ⟨t, rfl⟩ := e; exact ⟨_, .int i t⟩
  | .str x, v, e => by obtain ⟨t, rfl⟩ := e; exact ⟨_, .str x t⟩
  | .list xs, v, e => by
    obtain ⟨a, vs, rfl, ⟨o, h1, h2, n, h3⟩, hr⟩ := e
    obtain ⟨as, r⟩ := RDL.reads xs vs hr
    exact ⟨_, .list h1 h2 h3 r⟩
  | .tuple xs, v, e => by
    obtain ⟨a, vs, rfl, ⟨o, h1, h2, n, h3⟩, hr⟩ := e
    obtain ⟨as, r⟩ := RDL.reads xs vs hr
    exact ⟨_, .tuple h1 h2 h3 r⟩
  | .dict _, _, e => e.elim
theorem RDL.reads {h : Heap} : ∀ (xs : List PyData) (vs : List Value), RDL h xs vs → ∃ as, ReadsAll h vs xs as
  | [], [], _ => ⟨_, .nil⟩
  | x :: xs, v :: vs, e => by
    obtain ⟨as, r⟩ := RD.reads x v e.1
    obtain ⟨bs, q⟩ := RDL.reads xs vs e.2
    exact ⟨_, .cons r q⟩
  | [], _ :: _, e => e.elim
  | _ :: _, [], e => e.elim
end

/-! ## the world, the room, a step -/

structure Wd where
  prog : Program
  w : World
  K : Frag
  p : Program
  loose : List Str
  mg : Str → Option Value
  mb : Str → Option Value

structure GF (D : Wd) (h : Heap) : Prop where
  X : D.K.In h
  T : TopRead D.p D.loose D.mg D.mb h
theorem GF.keeps {D : Wd} {h h' : Heap} (g : GF D h) (k : Keeps h h') : GF D h' := ⟨g.X.keeps k, g.T.keeps k⟩

structure Room (A : Around) (n : Nat) : Prop where
  depth : A.depth + n < recursionLimit
  units : A.units + 8 * n + 80 < cLine
  handled : A.handled = none
theorem Room.mono {A : Around} {n k : Nat} (r : Room A n) (h : k ≤ n) : Room A k := ⟨by have := r.depth; omega, by have := r.units; omega, r.handled⟩
theorem Room.deeper {A : Around} {n : Nat} (r : Room A (n + 1)) (env : Env) : Room (A.deeper env) n :=
  ⟨by have := r.depth; show A.depth + 1 + n < _; omega, by have := r.units; show A.units + 3 + 8 * n + 80 < _; omega, r.handled⟩

structure Stp (s s' : Shared) : Prop where
  keep : Keeps s.heap s'.heap
  gens : s'.gens = s.gens
  drawn : s'.drawn = s.drawn
  os : s'.os = s.os
theorem Stp.refl (s : Shared) : Stp s s := ⟨.refl _, rfl, rfl, rfl⟩
theorem Stp.tok {s : Shared} {t : Tok} : Stp s { s with toks := t } := ⟨.refl _, rfl, rfl, rfl⟩
theorem Stp.trans {a b c : Shared} (x : Stp a b) (y : Stp b c) : Stp a c := ⟨x.keep.trans y.keep, y.gens.trans x.gens, y.drawn.trans x.drawn, y.os.trans x.os⟩

/-! ## a frame and its names -/

def getV : List (Option PV) → Nat → (PV → Prop) → Prop
  | some v :: _, 0, P => P v
  | none :: _, 0, _ => False
  | _ :: r, i + 1, P => getV r i P
  | [], _, _ => False
def setV : List (Option PV) → Nat → PV → List (Option PV)
  | _ :: r, 0, v => some v :: r
  | x :: r, i + 1, v => x :: setV r i v
  | [], _, _ => []

theorem getV_out : ∀ {ρ : List (Option PV)} {i : Nat} {P : PV → Prop}, getV ρ i P → ∃ v, ρ[i]? = some (some v) ∧ P v
  | some v :: _, 0, P, h => ⟨v, rfl, h⟩
  | none :: _, 0, _, h => h.elim
  | some _ :: r, i + 1, P, h => getV_out (ρ := r) h
  | none :: r, i + 1, P, h => getV_out (ρ := r) h
  | [], 0, _, h => h.elim
  | [], _ + 1, _, h => h.elim
theorem setV_get : ∀ {ρ : List (Option PV)} {i j : Nat} {v : PV} {x : Option PV}, (setV ρ i v)[j]? = some x → (j = i ∧ x = some v) ∨ (j ≠ i ∧ ρ[j]? = some x)
  | [], 0, j, v, x, h => by simp [setV] at h
  | [], i + 1, j, v, x, h => by simp [setV] at h
  | y :: r, 0, 0, v, x, h => by simp [setV] at h; exact .inl ⟨rfl, h.symm⟩
  | y :: r, 0, j + 1, v, x, h => by simp [setV] at h; exact .inr ⟨by omega, by simpa using h⟩
  | y :: r, i + 1, 0, v, x, h => by simp [setV] at h; exact .inr ⟨by omega, by simpa using h⟩
  | y :: r, i + 1, j + 1, v, x, h => by
    simp only [setV, List.getElem?_cons_succ] at h ⊢
    rcases setV_get h with ⟨a, b⟩ | ⟨a, b⟩
    · exact .inl ⟨by omega, b⟩
    · exact .inr ⟨by omega, b⟩

/-- how one name of the frame holds its value -/
def VarIs (cl : List (Str × Addr)) (m : Str → Option Value) (h : Heap) (x : Str) (kd : NameKind) (v : Value) : Prop :=
  (kd = .local ∧ m x = some v) ∨ ((kd = .cell ∨ kd = .free) ∧ ∃ c, cl.lookup x = some c ∧ h.IsCell c (some v))

structure FI (D : Wd) (cs : Scope) (cl : List (Str × Addr)) (h₀ : Heap) (L : Addr) (m : Str → Option Value) (h : Heap) (ρ : List (Option PV)) : Prop where
  gf : GF D h₀
  fr : Fr h₀ L h m
  kind : cs.kind = .function
  nd : (cs.names.map (·.1)).Nodup
  dbg : cs.names.all (fun q => !(q.1 == ("__debug__" : Str)) && !(q.1 == ("__classdict__" : Str))) = true
  cnew : ∀ x c, cl.lookup x = some c → h₀.get? c = none ∧ c ≠ L
  cinj : ∀ x y c, cl.lookup x = some c → cl.lookup y = some c → x = y
  cellk : ∀ x, cs.names.lookup x = some .cell → ∃ c, cl.lookup x = some c
  cell : ∀ x c, cl.lookup x = some c → ∃ v₀, h.IsCell c v₀
  rep : ∀ (i : Nat) (x : Str) (kd : NameKind) (pv : PV), cs.names[i]? = some (x, kd) → ρ[i]? = some (some pv) → ∃ v, RepV h pv v ∧ VarIs cl m h x kd v

section
variable {D : Wd} {cs : Scope} {cl : List (Str × Addr)} {h₀ h h' : Heap} {L : Addr} {m : Str → Option Value} {ρ : List (Option PV)}
theorem IsCell_keeps {c : Addr} {v : Option Value} (k : Keeps h h') (x : h.IsCell c v) : h'.IsCell c v := by
  obtain ⟨o, a, b⟩ := x; exact ⟨o, k _ _ a, b⟩
theorem VarIs.keeps {x : Str} {kd : NameKind} {v : Value} (k : Keeps h h') (y : VarIs cl m h x kd v) : VarIs cl m h' x kd v := by
  rcases y with y | ⟨y, c, y1, y2⟩
  · exact .inl y
  · exact .inr ⟨y, c, y1, IsCell_keeps k y2⟩
theorem FI.after (F : FI D cs cl h₀ L m h ρ) (k : Keeps h h') : FI D cs cl h₀ L m h' ρ where
  gf := F.gf
  fr := F.fr.after k
  kind := F.kind
  nd := F.nd
  dbg := F.dbg
  cnew := F.cnew
  cinj := F.cinj
  cellk := F.cellk
  cell := fun x c hx => let ⟨v₀, b⟩ := F.cell x c hx; ⟨v₀, IsCell_keeps k b⟩
  rep := fun i x kd pv a b => let ⟨v, r, y⟩ := F.rep i x kd pv a b; ⟨v, RepV.keepsSeq k.seq r, y.keeps k⟩
theorem FI.g (F : FI D cs cl h₀ L m h ρ) : GF D h := F.gf.keeps F.fr.keep
end

theorem nodup_idx {α β : Type} : ∀ {l : List (α × β)} {i j : Nat} {x : α} {a b : β}, (l.map (·.1)).Nodup → l[i]? = some (x, a) → l[j]? = some (x, b) → i = j := by
  intro l i j x a b hn hi hj
  have h1 : (l.map (·.1))[i]? = some x := by simp [hi]
  have h2 : (l.map (·.1))[j]? = some x := by simp [hj]
  have hl : i < (l.map (·.1)).length := by
    rcases Nat.lt_or_ge i (l.map (·.1)).length with q | q
    · exact q
    · rw [List.getElem?_eq_none q] at h1; cases h1
  exact (List.getElem?_inj hl hn).mp (h1.trans h2.symm)

/-- where a name stands in its scope -/
def At (cs : Scope) (x : Str) (i : Nat) (kd : NameKind) : Prop := cs.names[i]? = some (x, kd)

theorem lookup_of_get {β : Type} : ∀ {l : List (Str × β)} {i : Nat} {x : Str} {b : β}, (l.map (·.1)).Nodup → l[i]? = some (x, b) → l.lookup x = some b
  | [], _, _, _, _, h => by simp at h
  | (y, c) :: l, 0, x, b, _, h => by simp at h; obtain ⟨rfl, rfl⟩ := h; simp
  | (y, c) :: l, i + 1, x, b, hn, h => by
    simp only [List.getElem?_cons_succ] at h
    simp only [List.map_cons, List.nodup_cons] at hn
    have hne : x ≠ y := fun q => hn.1 (by subst q; exact List.mem_map_of_mem (f := (·.1)) (List.mem_of_getElem? h))
    rw [List.lookup_cons, show (x == y) = false from beq_eq_false_iff_ne.mpr hne]
    exact lookup_of_get hn.2 h
theorem FI.lk {D : Wd} {cs : Scope} {cl : List (Str × Addr)} {h₀ h : Heap} {L : Addr} {m : Str → Option Value} {ρ : List (Option PV)} {x : Str} {i : Nat} {kd : NameKind} (F : FI D cs cl h₀ L m h ρ) (a : At cs x i kd) : cs.names.lookup x = some kd :=
  lookup_of_get F.nd a
theorem FI.nodbg {D : Wd} {cs : Scope} {cl : List (Str × Addr)} {h₀ h : Heap} {L : Addr} {m : Str → Option Value} {ρ : List (Option PV)} {x : Str} {i : Nat} {kd : NameKind} (F : FI D cs cl h₀ L m h ρ) (a : At cs x i kd) :
    (x == ("__debug__" : Str)) = false ∧ (x == ("__classdict__" : Str)) = false := by
  have := List.all_eq_true.mp F.dbg _ (List.mem_of_getElem? a)
  simpa using this

end Mine

-- ---------- BaseE ----------
set_option maxRecDepth 100000
set_option autoImplicit false
set_option linter.all false
namespace Mine
open PySem PySem.W PyProof.Rows PySem.Calls PySem.Spec

/-- the environment of a function's body, and of a block inside it -/
abbrev envG (q : Str) (scope : Scope) (L : Addr) (a : Option Addr × Option Addr) (cd : Value) (cells : List (Str × Addr)) : Env :=
  { scope := scope, locals := L, globals := mainGlobals, cells := cells, qual := q, func := a.1, code := cd, frame := a.2, builtins := builtinsNs }

abbrev Env1 := List (Option PV)
abbrev NoE : Value → Shared → Prop := fun _ _ => False

/-- an expression is sound for the transformer W -/
def SE (D : Wd) (n : Nat) (cs : Scope) (e : Expr) (W : Env1 → (PV → Prop) → Prop) : Prop :=
  ∀ (A : Around) (h₀ : Heap) (L : Addr) (a : Option Addr × Option Addr) (ccd : Value) (cn : Str) (cl : List (Str × Addr)) (m : Str → Option Value) (s : Shared) (ρ : Env1) (P : PV → Prop) (Q : Value → Shared → Prop),
    Room A n → FI D cs cl h₀ L m s.heap ρ → W ρ P → (∀ pv v s', P pv → RepV s'.heap pv v → Stp s s' → Q v s') →
    wpAny (model D.prog D.w) A (eval e (envG cn cs L a ccd cl)) Q NoE s

/-- a test -/
def ST (D : Wd) (n : Nat) (cs : Scope) (e : Expr) (W : Env1 → (Bool → Prop) → Prop) : Prop :=
  ∀ (A : Around) (h₀ : Heap) (L : Addr) (a : Option Addr × Option Addr) (ccd : Value) (cn : Str) (cl : List (Str × Addr)) (m : Str → Option Value) (s : Shared) (ρ : Env1) (P : Bool → Prop) (Q : Bool → Shared → Prop),
    Room A n → FI D cs cl h₀ L m s.heap ρ → W ρ P → (∀ c s', P c → Stp s s' → Q c s') →
    wpAny (model D.prog D.w) A (isTrue e (envG cn cs L a ccd cl) (eval e (envG cn cs L a ccd cl))) Q NoE s

/-- arguments, items of a display -/
def SA (D : Wd) (n : Nat) (cs : Scope) (es : List Expr) (W : Env1 → (List PV → Prop) → Prop) : Prop :=
  ∀ (A : Around) (h₀ : Heap) (L : Addr) (a : Option Addr × Option Addr) (ccd : Value) (cn : Str) (cl : List (Str × Addr)) (m : Str → Option Value) (s : Shared) (ρ : Env1) (P : List PV → Prop) (Q : List Value → Shared → Prop) (pos : Pos),
    Room A n → FI D cs cl h₀ L m s.heap ρ → W ρ P → (∀ pvs vs s', P pvs → RepL s'.heap pvs vs → vs.length = es.length → Stp s s' → Q vs s') →
    wpAny (model D.prog D.w) A (spliced (backTo pos (starEach es (envG cn cs L a ccd cl)))) Q NoE s

/-- the contract of a function value -/
def FS (D : Wd) (f : Value) (n : Nat) (C : List PV → (PV → Prop) → Prop) : Prop :=
  ∀ (A : Around) (s : Shared) (pvs : List PV) (vs : List Value) (P : PV → Prop) (Q : Value → Shared → Prop),
    Room A n → GF D s.heap → RepL s.heap pvs vs → C pvs P → (∀ pv v s', P pv → RepV s'.heap pv v → Stp s s' → Q v s') →
    wpAny (model D.prog D.w) A (call f vs) Q NoE s

section
variable {D : Wd} {n : Nat} {cs : Scope}

theorem FS.mono {f : Value} {k : Nat} {C : List PV → (PV → Prop) → Prop} (h : FS D f k C) (hk : k ≤ n) : FS D f n C :=
  fun A s pvs vs P Q r => h A s pvs vs P Q (r.mono hk)

/-! ### names -/
theorem SE.var {x : Str} {pos : Pos} {i : Nat} {kd : NameKind} (h : At cs x i kd) : SE D n cs (.Name x pos) (fun ρ P => getV ρ i P) := by
  intro A h₀ L a ccd cn cl m s ρ P Q hA F hW hQ
  obtain ⟨pv, e, hp⟩ := getV_out hW
  obtain ⟨v, r, y⟩ := F.rep i x kd pv h e
  have fin : Q v s := hQ pv v s hp r (.refl _)
  obtain ⟨hd, hc⟩ := F.nodbg h
  refine wpAny_Name ?_ hd
  rcases y with ⟨rfl, hm⟩ | ⟨rfl | rfl, c, y1, y2⟩
  · exact wpAny_loadName_local F.kind (F.lk h) F.fr.ns hm fin
  · exact wpAny_loadName_cell F.kind (F.lk h) y1 y2 fin
  · exact wpAny_loadName_free F.kind (F.lk h) y1 y2 fin hc

theorem SE.glob {x : Str} {pos : Pos} {v : Value} {pv : PV} {i : Nat} (h : At cs x i .globalImplicit) (e : nsIn D.K mainGlobals x = some (some v))
    (hr : ∀ h, D.K.In h → RepV h pv v) : SE D n cs (.Name x pos) (fun _ P => P pv) := by
  intro A h₀ L a ccd cn cl m s ρ P Q hA F hW hQ
  exact Name_function_global F.kind (F.lk h) (loadGlobal_global (env := envG cn cs L a ccd cl) (F.gf.T.g.keeps F.fr.keep) (mg_of F.gf.X F.gf.T.g e) (hQ pv v s hW (hr _ F.g.X) (.refl _))) (F.nodbg h).1
theorem SE.boot {x : Str} {pos : Pos} {v : Value} {i : Nat} (h : At cs x i .globalImplicit) (e : nsIn D.K mainGlobals x = some none) (hv : bootBuiltins x = some v) (hn : x ≠ "__name__") :
    SE D n cs (.Name x pos) (fun _ P => P (.o v)) := by
  intro A h₀ L a ccd cn cl m s ρ P Q hA F hW hQ
  exact Name_function_global F.kind (F.lk h) (loadGlobal_builtin (env := envG cn cs L a ccd cl) (F.gf.T.g.keeps F.fr.keep) (mg_none_of F.gf.X F.gf.T.g e) (F.gf.T.b.keeps F.fr.keep) ((F.gf.T.builtins x hn).trans hv) (hQ (.o v) v s hW rfl (.refl _))) (F.nodbg h).1

/-! ### constants -/
theorem SE.int {i : Int} {k : Nat} {pos : Pos} : SE D n cs (.Constant (.int i) k pos) (fun _ P => P (.d (.int i))) := by
  intro A h₀ L a ccd cn cl m s ρ P Q hA F hW hQ
  exact wpAny_Constant_int (hQ (.d (.int i)) _ _ hW ⟨_, rfl⟩ .tok)
theorem SE.str {x : Str} {k : Nat} {pos : Pos} : SE D n cs (.Constant (.str x) k pos) (fun _ P => P (.d (.str x))) := by
  intro A h₀ L a ccd cn cl m s ρ P Q hA F hW hQ
  exact Calls.Constant_str (hQ (.d (.str x)) _ _ hW ⟨_, rfl⟩ .tok)
theorem SE.bool {b : Bool} {k : Nat} {pos : Pos} : SE D n cs (.Constant (.bool b) k pos) (fun _ P => P (.d (.bool b))) := by
  intro A h₀ L a ccd cn cl m s ρ P Q hA F hW hQ
  exact Constant_bool (hQ (.d (.bool b)) _ _ hW rfl (.refl _))
theorem SE.none {k : Nat} {pos : Pos} : SE D n cs (.Constant .none k pos) (fun _ P => P (.d .none)) := by
  intro A h₀ L a ccd cn cl m s ρ P Q hA F hW hQ
  exact Constant_none (hQ (.d .none) _ _ hW rfl (.refl _))

/-! ### operators -/
def binVC : Operator → PV → PV → (PV → Prop) → Prop
  | .Add, .d (.int x), .d (.int y), P => P (.d (.int (x + y)))
  | .Sub, .d (.int x), .d (.int y), P => P (.d (.int (x - y)))
  | .Mult, .d (.int x), .d (.int y), P => IntMulOk x y ∧ P (.d (.int (x * y)))
  | .FloorDiv, .d (.int x), .d (.int y), P => y ≠ 0 ∧ Builtin.divisionGoesByPylong x y = false ∧ P (.d (.int (x.fdiv y)))
  | .Mod, .d (.int x), .d (.int y), P => y ≠ 0 ∧ P (.d (.int (x.fmod y)))
  | .LShift, .d (.int x), .d (.int y), P => 0 ≤ y ∧ (Builtin.Int.intBits x : Int) + y ≤ 2 ^ 27 ∧ P (.d (.int (x * 2 ^ y.toNat)))
  | .RShift, .d (.int x), .d (.int y), P => 0 ≤ y ∧ P (.d (.int (x.fdiv (2 ^ y.toNat))))
  | .BitAnd, .d (.int x), .d (.int y), P => P (.d (.int (Builtin.bitAnd x y)))
  | .BitXor, .d (.int x), .d (.int y), P => P (.d (.int (Builtin.bitXor x y)))
  | .Pow, .d (.int x), .d (.int y), P => 0 ≤ y ∧ y ≤ 1000000 ∧ x.natAbs < 2 ^ 64 ∧ P (.d (.int (x ^ y.toNat)))
  | _, _, _, _ => False

theorem binVC_sound {op : Operator} {a b : PV} {P : PV → Prop} {v u : Value} {A : Around} {s : Shared} {Q : Value → Shared → Prop} (h : binVC op a b P) (ra : RepV s.heap a v) (rb : RepV s.heap b u)
    (hQ : ∀ pv w s', P pv → RepV s'.heap pv w → Stp s s' → Q w s') : wpAny (model D.prog D.w) A (binaryOp op v u) Q NoE s := by
  unfold binVC at h
  split at h <;> first | exact h.elim | skip
  all_goals (obtain ⟨t, rfl⟩ := ra; obtain ⟨t', rfl⟩ := rb)
  · exact add_int (hQ _ _ _ h ⟨_, rfl⟩ .tok)
  · exact sub_int (hQ _ _ _ h ⟨_, rfl⟩ .tok)
  · exact mul_int (hQ _ _ _ h.2 ⟨_, rfl⟩ .tok) h.1
  · exact floordiv_int h.1 (hQ _ _ _ h.2.2 ⟨_, rfl⟩ .tok) (.inl h.2.1)
  · exact mod_int' h.1 (hQ _ _ _ h.2 ⟨_, rfl⟩ .tok)
  · exact lshift_int h.1 h.2.1 (hQ _ _ _ h.2.2 ⟨_, rfl⟩ .tok)
  · exact rshift_int h.1 (hQ _ _ _ h.2 ⟨_, rfl⟩ .tok)
  · exact and_int (hQ _ _ _ h ⟨_, rfl⟩ .tok)
  · exact xor_int (hQ _ _ _ h ⟨_, rfl⟩ .tok)
  · exact pow_int_small h.1 h.2.1 h.2.2.1 (hQ _ _ _ h.2.2.2 ⟨_, rfl⟩ .tok)

def augVC : Operator → PV → PV → (PV → Prop) → Prop
  | .Add, .d (.int x), .d (.int y), P => P (.d (.int (x + y)))
  | .Sub, .d (.int x), .d (.int y), P => P (.d (.int (x - y)))
  | .Mult, .d (.int x), .d (.int y), P => IntMulOk x y ∧ P (.d (.int (x * y)))
  | .LShift, .d (.int x), .d (.int y), P => 0 ≤ y ∧ (Builtin.Int.intBits x : Int) + y ≤ 2 ^ 27 ∧ P (.d (.int (x * 2 ^ y.toNat)))
  | .RShift, .d (.int x), .d (.int y), P => 0 ≤ y ∧ P (.d (.int (x.fdiv (2 ^ y.toNat))))
  | .BitXor, .d (.int x), .d (.int y), P => P (.d (.int (Builtin.bitXor x y)))
  | _, _, _, _ => False
theorem augVC_sound {op : Operator} {a b : PV} {P : PV → Prop} {v u : Value} {A : Around} {s : Shared} {Q : Value → Shared → Prop} (h : augVC op a b P) (ra : RepV s.heap a v) (rb : RepV s.heap b u)
    (hQ : ∀ pv w s', P pv → RepV s'.heap pv w → Stp s s' → Q w s') : wpAny (model D.prog D.w) A (inplaceOp op v u) Q NoE s := by
  unfold augVC at h
  split at h <;> first | exact h.elim | skip
  all_goals (obtain ⟨t, rfl⟩ := ra; obtain ⟨t', rfl⟩ := rb)
  · exact PyProof.Rows.iadd_int (hQ _ _ _ h ⟨_, rfl⟩ .tok)
  · exact PyProof.Rows.isub_int (hQ _ _ _ h ⟨_, rfl⟩ .tok)
  · exact PyProof.Rows.imul_int (hQ _ _ _ h.2 ⟨_, rfl⟩ .tok) h.1
  · exact ilshift_int h.1 h.2.1 (hQ _ _ _ h.2.2 ⟨_, rfl⟩ .tok)
  · exact irshift_int h.1 (hQ _ _ _ h.2 ⟨_, rfl⟩ .tok)
  · exact ixor_int (hQ _ _ _ h ⟨_, rfl⟩ .tok)

theorem SE.bin {op : Operator} {l r : Expr} {pos : Pos} {Wl Wr : Env1 → (PV → Prop) → Prop} (hl : SE D n cs l Wl) (hr : SE D n cs r Wr) :
    SE D n cs (.BinOp l op r pos) (fun ρ P => Wl ρ fun a => Wr ρ fun b => binVC op a b P) := by
  intro A h₀ L a ccd cn cl m s ρ P Q hA F hW hQ
  refine wpAny_BinOp (hl A h₀ L a ccd cn cl m s ρ _ _ hA F hW fun pa v s₁ hW₁ r₁ t₁ => ?_)
  refine hr A h₀ L a ccd cn cl m s₁ ρ _ _ hA (F.after t₁.keep) hW₁ fun pb u s₂ h₂ r₂ t₂ => ?_
  exact binVC_sound h₂ (r₁.keepsSeq t₂.keep.seq) r₂ fun pv w s' hp hr' ht => hQ pv w s' hp hr' (t₁.trans (t₂.trans ht))

def truthVC : PV → (Bool → Prop) → Prop
  | .d (.int i), P => P (i != 0)
  | .d (.bool b), P => P b
  | .d .none, P => P false
  | _, _ => False
theorem truthVC_sound {a : PV} {P : Bool → Prop} {v : Value} {A : Around} {s : Shared} {Q : Bool → Shared → Prop} (h : truthVC a P) (ra : RepV s.heap a v)
    (hQ : ∀ c, P c → Q c s) : wpAny (model D.prog D.w) A (truthy v) Q NoE s := by
  unfold truthVC at h
  split at h <;> first | exact h.elim | skip
  · obtain ⟨t, rfl⟩ := ra; exact PyProof.Rows.truthy_int (hQ _ h)
  · obtain rfl : v = _ := ra; exact wpAny_truthy_bool (hQ _ h)
  · obtain rfl : v = _ := ra; exact truthy_none (hQ _ h)

def unVC : UnaryOp → PV → (PV → Prop) → Prop
  | .USub, .d (.int x), P => P (.d (.int (-x)))
  | .Not, a, P => truthVC a fun c => P (.d (.bool (!c)))
  | _, _, _ => False
theorem SE.un {op : UnaryOp} {e : Expr} {pos : Pos} {W : Env1 → (PV → Prop) → Prop} (h : SE D n cs e W) :
    SE D n cs (.UnaryOp op e pos) (fun ρ P => W ρ fun a => unVC op a P) := by
  intro A h₀ L a ccd cn cl m s ρ P Q hA F hW hQ
  refine UnaryOp_ (h A h₀ L a ccd cn cl m s ρ _ _ hA F hW fun pa v s₁ hW₁ r₁ t₁ => ?_)
  unfold unVC at hW₁
  split at hW₁
  · obtain ⟨t, rfl⟩ := r₁; exact PyProof.Rows.neg_int (hQ _ _ _ hW₁ ⟨_, rfl⟩ (t₁.trans .tok))
  · exact not_of (truthVC_sound hW₁ r₁ fun c hc => hQ _ _ _ hc rfl t₁)
  · exact hW₁.elim

def cmpVC : CmpOp → PV → PV → (Bool → Prop) → Prop
  | .Lt, .d (.int x), .d (.int y), P => P (decide (x < y))
  | .LtE, .d (.int x), .d (.int y), P => P (decide (x ≤ y))
  | .Gt, .d (.int x), .d (.int y), P => P (decide (y < x))
  | .GtE, .d (.int x), .d (.int y), P => P (decide (y ≤ x))
  | .Eq, .d (.str x), .d (.str y), P => P (x == y)
  | .Eq, .d x, .d y, P => SeqAt.shaped x = true ∧ SeqAt.shaped y = true ∧ P (PyData.eqv x y)
  | .NotEq, .d x, .d y, P => SeqAt.shaped x = true ∧ SeqAt.shaped y = true ∧ P (!PyData.eqv x y)
  | .In, .d x, .d (.tuple xs), P => SeqAt.shaped (.tuple xs) = true ∧ SeqAt.shaped x = true ∧ P (xs.any fun y => PyData.eqv y x)
  | _, _, _, _ => False
theorem cmpVC_sound {op : CmpOp} {a b : PV} {P : Bool → Prop} {v u : Value} {A : Around} {s : Shared} {Q : Value → Shared → Prop} (hA : Room A n) (h : cmpVC op a b P) (ra : RepV s.heap a v) (rb : RepV s.heap b u)
    (hQ : ∀ c, P c → Q (.bool c) s) : wpAny (model D.prog D.w) A (compareOp op v u) Q NoE s := by
  have hu : A.units + 64 < cLine := by have := hA.units; omega
  unfold cmpVC at h
  split at h <;> first | exact h.elim | skip
  · obtain ⟨t, rfl⟩ := ra; obtain ⟨t', rfl⟩ := rb; exact lt_int (hQ _ h)
  · obtain ⟨t, rfl⟩ := ra; obtain ⟨t', rfl⟩ := rb; exact le_int (hQ _ h)
  · obtain ⟨t, rfl⟩ := ra; obtain ⟨t', rfl⟩ := rb; exact gt_int (hQ _ h)
  · obtain ⟨t, rfl⟩ := ra; obtain ⟨t', rfl⟩ := rb; exact ge_int (hQ _ h)
  · obtain ⟨t, rfl⟩ := ra; obtain ⟨t', rfl⟩ := rb; exact eq_str (hQ _ h)
  · obtain ⟨as, ra⟩ := RD.reads _ _ ra; obtain ⟨bs, rb⟩ := RD.reads _ _ rb; exact eq_dataH ra rb h.1 h.2.1 hu (hQ _ h.2.2)
  · obtain ⟨as, ra⟩ := RD.reads _ _ ra; obtain ⟨bs, rb⟩ := RD.reads _ _ rb; exact ne_dataH ra rb h.1 h.2.1 hu (hQ _ h.2.2)
  · obtain ⟨as, ra⟩ := RD.reads _ _ ra; obtain ⟨bs, rb⟩ := RD.reads _ _ rb; exact SeqAt.in_tuple_reads rb ra (SeqAt.canLay_of_shaped h.1) (SeqAt.canLay_of_shaped h.2.1) (room_in_shaped h.2.1 (by have := hA.units; omega)) (hQ _ h.2.2)

theorem SE.cmp {op : CmpOp} {l r : Expr} {pos : Pos} {Wl Wr : Env1 → (PV → Prop) → Prop} (hl : SE D n cs l Wl) (hr : SE D n cs r Wr) (hm : behindInMarks op r = false) :
    SE D n cs (.Compare l [op] [r] pos) (fun ρ P => Wl ρ fun a => Wr ρ fun b => cmpVC op a b fun c => P (.d (.bool c))) := by
  intro A h₀ L a ccd cn cl m s ρ P Q hA F hW hQ
  refine wpAny_Compare1 (hl A h₀ L a ccd cn cl m s ρ _ _ hA F hW fun pa v s₁ hW₁ r₁ t₁ => ?_) hm
  refine hr A h₀ L a ccd cn cl m s₁ ρ _ _ hA (F.after t₁.keep) hW₁ fun pb u s₂ h₂ r₂ t₂ => ?_
  exact cmpVC_sound hA h₂ (r₁.keepsSeq t₂.keep.seq) r₂ fun c hc => hQ _ _ _ hc rfl (t₁.trans t₂)
theorem ST.cmp {op : CmpOp} {l r : Expr} {pos : Pos} {Wl Wr : Env1 → (PV → Prop) → Prop} (hl : SE D n cs l Wl) (hr : SE D n cs r Wr) (hm : behindInMarks op r = false) :
    ST D n cs (.Compare l [op] [r] pos) (fun ρ P => Wl ρ fun a => Wr ρ fun b => cmpVC op a b P) := by
  intro A h₀ L a ccd cn cl m s ρ P Q hA F hW hQ
  refine wpAny_isTrue_Compare1 (hl A h₀ L a ccd cn cl m s ρ _ _ hA F hW fun pa v s₁ hW₁ r₁ t₁ => ?_) hm
  refine hr A h₀ L a ccd cn cl m s₁ ρ _ _ hA (F.after t₁.keep) hW₁ fun pb u s₂ h₂ r₂ t₂ => ?_
  exact cmpVC_sound hA h₂ (r₁.keepsSeq t₂.keep.seq) r₂ fun c hc => wpAny_truthy_bool (hQ _ _ hc (t₁.trans t₂))

theorem ST.not {e : Expr} {pos : Pos} {W : Env1 → (Bool → Prop) → Prop} (h : ST D n cs e W) : ST D n cs (.UnaryOp .Not e pos) (fun ρ P => W ρ fun c => P (!c)) := by
  intro A h₀ L a ccd cn cl m s ρ P Q hA F hW hQ
  exact isTrue_not (h A h₀ L a ccd cn cl m s ρ _ _ hA F hW fun c s' hc ht => hQ _ _ hc ht)
theorem ST.and2 {x y : Expr} {pos : Pos} {W₁ W₂ : Env1 → (Bool → Prop) → Prop} (h₁ : ST D n cs x W₁) (h₂ : ST D n cs y W₂) :
    ST D n cs (.BoolOp .And [x, y] pos) (fun ρ P => W₁ ρ fun c => (c = true → W₂ ρ P) ∧ (c = false → P false)) := by
  intro A h₀ L a ccd cn cl m s ρ P Q hA F hW hQ
  refine isTrue_and (h₁ A h₀ L a ccd cn cl m s ρ _ _ hA F hW fun c s₁ hc ht => ?_)
  cases c with
  | false => exact hQ _ _ (hc.2 rfl) ht
  | true =>
    refine isTrue_and (h₂ A h₀ L a ccd cn cl m s₁ ρ _ _ hA (F.after ht.keep) (hc.1 rfl) fun c' s₂ hc' ht' => ?_)
    cases c' with
    | false => exact hQ _ _ hc' (ht.trans ht')
    | true => exact isTrue_and_nil (hQ _ _ hc' (ht.trans ht'))
theorem ST.or2 {x y : Expr} {pos : Pos} {W₁ W₂ : Env1 → (Bool → Prop) → Prop} (h₁ : ST D n cs x W₁) (h₂ : ST D n cs y W₂) :
    ST D n cs (.BoolOp .Or [x, y] pos) (fun ρ P => W₁ ρ fun c => (c = false → W₂ ρ P) ∧ (c = true → P true)) := by
  intro A h₀ L a ccd cn cl m s ρ P Q hA F hW hQ
  refine isTrue_or (h₁ A h₀ L a ccd cn cl m s ρ _ _ hA F hW fun c s₁ hc ht => ?_)
  cases c with
  | true => exact hQ _ _ (hc.2 rfl) ht
  | false =>
    refine isTrue_or (h₂ A h₀ L a ccd cn cl m s₁ ρ _ _ hA (F.after ht.keep) (hc.1 rfl) fun c' s₂ hc' ht' => ?_)
    cases c' with
    | true => exact hQ _ _ hc' (ht.trans ht')
    | false => exact isTrue_or_nil (hQ _ _ hc' (ht.trans ht'))
theorem ST.val {e : Expr} {W : Env1 → (PV → Prop) → Prop} (h : SE D n cs e W)
    (he : ∀ env whole, isTrue e env whole = (do let v ← whole; standAt e.pos; holding [v] (truthy v))) : ST D n cs e (fun ρ P => W ρ fun a => truthVC a P) := by
  intro A h₀ L a ccd cn cl m s ρ P Q hA F hW hQ
  refine isTrue_plain (h A h₀ L a ccd cn cl m s ρ _ _ hA F hW fun pv v s₁ hp hr ht => ?_) (he _ _)
  exact truthVC_sound hp hr fun c hc => hQ _ _ hc ht

theorem SE.ite {t b o : Expr} {pos : Pos} {Wt : Env1 → (Bool → Prop) → Prop} {Wb Wo : Env1 → (PV → Prop) → Prop} (ht : ST D n cs t Wt) (hb : SE D n cs b Wb) (ho : SE D n cs o Wo) :
    SE D n cs (.IfExp t b o pos) (fun ρ P => Wt ρ fun c => (c = true → Wb ρ P) ∧ (c = false → Wo ρ P)) := by
  intro A h₀ L a ccd cn cl m s ρ P Q hA F hW hQ
  refine IfExp_ (ht A h₀ L a ccd cn cl m s ρ _ _ hA F hW fun c s₁ hc ht => ?_)
  cases c with
  | true => exact hb A h₀ L a ccd cn cl m s₁ ρ _ _ hA (F.after ht.keep) (hc.1 rfl) fun pv v s' hp hr ht' => hQ _ _ _ hp hr (ht.trans ht')
  | false => exact ho A h₀ L a ccd cn cl m s₁ ρ _ _ hA (F.after ht.keep) (hc.2 rfl) fun pv v s' hp hr ht' => hQ _ _ _ hp hr (ht.trans ht')
theorem SE.and2 {x y : Expr} {pos : Pos} {W₁ W₂ : Env1 → (PV → Prop) → Prop} (h₁ : SE D n cs x W₁) (h₂ : SE D n cs y W₂) :
    SE D n cs (.BoolOp .And [x, y] pos) (fun ρ P => W₁ ρ fun a => truthVC a fun c => (c = true → W₂ ρ P) ∧ (c = false → P a)) := by
  intro A h₀ L a ccd cn cl m s ρ P Q hA F hW hQ
  refine BoolOp_and (h₁ A h₀ L a ccd cn cl m s ρ _ _ hA F hW fun pv v s₁ hp hr ht => truthVC_sound hp hr fun c hc => ?_)
  cases c with
  | false => exact hQ _ _ _ (hc.2 rfl) hr ht
  | true => exact BoolOp_one (h₂ A h₀ L a ccd cn cl m s₁ ρ _ _ hA (F.after ht.keep) (hc.1 rfl) fun pv' v' s' hp' hr' ht' => hQ _ _ _ hp' hr' (ht.trans ht'))
theorem SE.or2 {x y : Expr} {pos : Pos} {W₁ W₂ : Env1 → (PV → Prop) → Prop} (h₁ : SE D n cs x W₁) (h₂ : SE D n cs y W₂) :
    SE D n cs (.BoolOp .Or [x, y] pos) (fun ρ P => W₁ ρ fun a => truthVC a fun c => (c = false → W₂ ρ P) ∧ (c = true → P a)) := by
  intro A h₀ L a ccd cn cl m s ρ P Q hA F hW hQ
  refine BoolOp_or (h₁ A h₀ L a ccd cn cl m s ρ _ _ hA F hW fun pv v s₁ hp hr ht => truthVC_sound hp hr fun c hc => ?_)
  cases c with
  | true => exact hQ _ _ _ (hc.2 rfl) hr ht
  | false => exact BoolOp_one (h₂ A h₀ L a ccd cn cl m s₁ ρ _ _ hA (F.after ht.keep) (hc.1 rfl) fun pv' v' s' hp' hr' ht' => hQ _ _ _ hp' hr' (ht.trans ht'))

/-! ### displays -/
theorem SA.nil : SA D n cs [] (fun _ P => P []) := by
  intro A h₀ L a ccd cn cl m s ρ P Q pos hA F hW hQ
  exact wpAny_pure (hQ [] [] s hW trivial rfl (.refl _))
theorem SA.cons {e : Expr} {es : List Expr} {W : Env1 → (PV → Prop) → Prop} {Ws : Env1 → (List PV → Prop) → Prop} (h : SE D n cs e W) (hs : SA D n cs es Ws)
    (he : ∀ env, starEach (e :: es) env = (false, eval e env) :: starEach es env) : SA D n cs (e :: es) (fun ρ P => W ρ fun a => Ws ρ fun r => P (a :: r)) := by
  intro A h₀ L a ccd cn cl m s ρ P Q pos hA F hW hQ
  rw [he]
  refine spliced_cons (x := eval e _) (h A h₀ L a ccd cn cl m s ρ _ _ hA F hW fun pv v s₁ hp hr ht => ?_)
  refine hs A h₀ L a ccd cn cl m s₁ ρ _ _ pos hA (F.after ht.keep) hp fun pvs vs s₂ hps hrs hl ht' => ?_
  exact hQ _ _ _ hps ⟨hr.keepsSeq ht'.keep.seq, hrs⟩ (by simp [hl]) (ht.trans ht')

def allD : List PV → (List PyData → Prop) → Prop
  | [], P => P []
  | .d x :: r, P => allD r fun xs => P (x :: xs)
  | .o _ :: _, _ => False
theorem allD_out {h : Heap} : ∀ {pvs : List PV} {vs : List Value} {P : List PyData → Prop}, allD pvs P → RepL h pvs vs → ∃ xs, P xs ∧ RDL h xs vs
  | [], [], P, a, _ => ⟨[], a, trivial⟩
  | .d x :: r, v :: vs, P, a, e => by
    obtain ⟨xs, b, c⟩ := allD_out (pvs := r) a e.2
    exact ⟨x :: xs, b, e.1, c⟩
  | .o _ :: _, _, _, a, _ => a.elim
  | .d _ :: _, [], _, _, e => e.elim
  | [], _ :: _, _, _, e => e.elim

theorem RDL.keeps {h h' : Heap} (k : Keeps h h') {xs : List PyData} {vs : List Value} (e : RDL h xs vs) : RDL h' xs vs := RDL.keepsSeq k.seq xs vs e
theorem RD.keeps {h h' : Heap} (k : Keeps h h') {x : PyData} {v : Value} (e : RD h x v) : RD h' x v := RD.keepsSeq k.seq x v e

theorem SE.tuple {es : List Expr} {k : Nat} {pos : Pos} {W : Env1 → (List PV → Prop) → Prop} (h : SA D n cs es W) (hl : es.length ≤ 64) :
    SE D n cs (.Tuple es k pos) (fun ρ P => W ρ fun vs => allD vs fun xs => P (.d (.tuple xs))) := by
  intro A h₀ L a ccd cn cl m s ρ P Q hA F hW hQ
  refine Tuple_ (h A h₀ L a ccd cn cl m s ρ _ _ pos hA F hW fun pvs vs s₁ hp hr hlen ht => ?_)
  obtain ⟨xs, hx, hd⟩ := allD_out hp hr
  refine wpAny_newObj_type (hQ _ _ _ hx ⟨_, vs, rfl, ⟨_, Heap.get?_push_size _ rfl, rfl, 0, rfl⟩, hd.keeps (.push _ _)⟩ (ht.trans ⟨.push _ _, rfl, rfl, rfl⟩)) ?_
  show vs.toArray.size ≤ sizeLine
  rw [List.size_toArray, hlen, sizeLine_eq]; omega
theorem SE.list {es : List Expr} {pos : Pos} {W : Env1 → (List PV → Prop) → Prop} (h : SA D n cs es W) (hl : es.length ≤ 64) :
    SE D n cs (.List es pos) (fun ρ P => W ρ fun vs => allD vs fun xs => P (.d (.list xs))) := by
  intro A h₀ L a ccd cn cl m s ρ P Q hA F hW hQ
  refine List_ (h A h₀ L a ccd cn cl m s ρ _ _ pos hA F hW fun pvs vs s₁ hp hr hlen ht => ?_)
  obtain ⟨xs, hx, hd⟩ := allD_out hp hr
  refine wpAny_newObj_type (hQ _ _ _ hx ⟨_, vs, rfl, ⟨_, Heap.get?_push_size _ rfl, rfl, 0, rfl⟩, hd.keeps (.push _ _)⟩ (ht.trans ⟨.push _ _, rfl, rfl, rfl⟩)) ?_
  show vs.toArray.size ≤ sizeLine
  rw [List.size_toArray, hlen, sizeLine_eq]; omega

/-! ### items -/
def itemVC : PV → PV → (PV → Prop) → Prop
  | .d (.tuple xs), .d (.int k), P => -(2 ^ 63) ≤ k ∧ k < 2 ^ 63 ∧ ∃ j, seqIndex? k xs.length = some j ∧ match xs[j]? with | some x => P (.d x) | none => False
  | .d (.list xs), .d (.int k), P => 0 ≤ k ∧ k < 2 ^ 63 ∧ match xs[k.toNat]? with | some x => P (.d x) | none => False
  | _, _, _ => False
theorem SE.item {v i : Expr} {pos : Pos} {Wv Wi : Env1 → (PV → Prop) → Prop} (hv : SE D n cs v Wv) (hi : SE D n cs i Wi)
    (hs : ∀ o x, subscripted i false o x = operate [o, x] (getItem o x)) : SE D n cs (.Subscript v i pos) (fun ρ P => Wv ρ fun a => Wi ρ fun b => itemVC a b P) := by
  intro A h₀ L a ccd cn cl m s ρ P Q hA F hW hQ
  refine Subscript_ (hv A h₀ L a ccd cn cl m s ρ _ _ hA F hW fun pa v' s₁ hW₁ r₁ t₁ => ?_)
  refine hi A h₀ L a ccd cn cl m s₁ ρ _ _ hA (F.after t₁.keep) hW₁ fun pb u s₂ h₂ r₂ t₂ => ?_
  have r₁ := r₁.keepsSeq t₂.keep.seq
  unfold itemVC at h₂
  split at h₂
  · rename_i xs k _
    obtain ⟨b1, b2, j, hj, hx⟩ := h₂
    obtain ⟨t, vs, rfl, ht, hd⟩ := r₁
    obtain ⟨tk, rfl⟩ := r₂
    cases hq : xs[j]? with
    | none => rw [hq] at hx; exact hx.elim
    | some x =>
      rw [hq] at hx
      obtain ⟨y, hy, ry⟩ := hd.get j hq
      exact item_tupleT ht b1 b2 (hd.length ▸ hj) hy (hQ _ _ _ hx ry (t₁.trans t₂)) (hs _ _)
  · rename_i xs k _
    obtain ⟨b1, b2, hx⟩ := h₂
    obtain ⟨t, vs, rfl, ht, hd⟩ := r₁
    obtain ⟨tk, rfl⟩ := r₂
    cases hq : xs[k.toNat]? with
    | none => rw [hq] at hx; exact hx.elim
    | some x =>
      rw [hq] at hx
      obtain ⟨y, hy, ry⟩ := hd.get _ hq
      exact tail_any ht.typeIs slot_list_getitem.lookup (wpAny_getItem_list ht b1 b2 (by simpa using hy) (hQ _ _ _ hx ry (t₁.trans t₂))) (hs _ _)
  · exact h₂.elim

/-! ### calls -/
theorem keeper_machine {M : Model} {f : Value} (hf : ∀ a, f ≠ .ref a) (h : Heap) : ∃ k, (k = Keeper.frame ∨ k = Keeper.machine ∨ k = Keeper.boundFrame) ∧ Looks M h (keeperOf f) k := by
  refine ⟨.machine, .inr (.inl rfl), ?_⟩
  cases f <;> first | exact absurd rfl (hf _) | exact Looks.of_pure rfl

theorem SE.call {fe : Expr} {f : Value} {es : List Expr} {pos : Pos} {k : Nat} {C : List PV → (PV → Prop) → Prop} {Wf : Env1 → (PV → Prop) → Prop} {W : Env1 → (List PV → Prop) → Prop} (hf : SE D n cs fe Wf) (hW0 : Wf = fun _ P => P (.o f)) (hC : FS D f k C) (hk : k ≤ n)
    (hs : SA D n cs es W) (hkeep : (∀ a, f ≠ .ref a) ∨ keepIn D.K f = true) (hattr : ∀ env, eval (.Call fe es [] pos) env = (do callWith pos (← eval fe env) [] (backTo pos (starEach es env)) (backToKw pos (keywordEach [] env))))
    (hne : ∀ env, ∃ t r, starEach es env = (false, t) :: r ∧ r.any (·.1) = false) : SE D n cs (.Call fe es [] pos) (fun ρ P => W ρ fun vs => C vs P) := by
  intro A h₀ L a ccd cn cl m s ρ P Q hA F hW hQ
  rw [hattr]
  refine wpAny_bind (hf A h₀ L a ccd cn cl m s ρ (fun pv => pv = .o f) _ hA F (by rw [hW0]) fun pf fv s₁ e r₁ t₁ => ?_)
  subst e
  obtain rfl : fv = f := r₁
  obtain ⟨t, r, hst, hrs⟩ := hne (envG cn cs L a ccd cl)
  have hb : (backTo pos (starEach es (envG cn cs L a ccd cl))).any (·.1) = false := by
    rw [hst]
    simp only [backTo, List.map_cons, List.any_cons, Bool.false_or, List.any_map]
    exact hrs
  refine callWith_of (P := fun h => D.K.In h) (by rw [hb]; rfl) (fun h X => ?_) ?_
  · rcases hkeep with q | q
    · exact keeper_machine q h
    · exact keeps_K q h X
  have hs' := hs A h₀ L a ccd cn cl m s₁ ρ (fun vs => C vs P) (fun vs s' => D.K.In s'.heap ∧ wpAny (model D.prog D.w) A (PySem.call fv vs) Q NoE s') pos hA (F.after t₁.keep) hW fun pvs vs s₂ hp hr hl ht => by
    refine ⟨(F.after (t₁.keep.trans ht.keep)).g.X, ?_⟩
    exact hC A s₂ pvs vs P Q (hA.mono hk) (F.after (t₁.keep.trans ht.keep)).g hr hp fun pv v s' hp' hr' ht' => hQ _ _ _ hp' hr' (t₁.trans (ht.trans ht'))
  rw [hst] at hs' ⊢
  exact evalArgs_plain (by exact hs')

/-- a list of arguments, none of them starred -/
inductive NoStar : List Expr → Prop
  | nil : NoStar []
  | cons {e : Expr} {es : List Expr} : (∀ env, starEach (e :: es) env = (false, eval e env) :: starEach es env) → NoStar es → NoStar (e :: es)
theorem NoStar.any {es : List Expr} (h : NoStar es) (env : Env) : (starEach es env).any (·.1) = false := by
  induction h with
  | nil => rfl
  | cons a _ ih => rw [a]; simpa using ih

theorem SE.callN {id : Str} {pp : Pos} {f : Value} {e : Expr} {es : List Expr} {pos : Pos} {k : Nat} {C : List PV → (PV → Prop) → Prop} {Wf : Env1 → (PV → Prop) → Prop} {W : Env1 → (List PV → Prop) → Prop} (hf : SE D n cs (.Name id pp) Wf) (hW0 : Wf = fun _ P => P (.o f)) (hC : FS D f k C) (hk : k ≤ n)
    (hs : SA D n cs (e :: es) W) (hkeep : (∀ a, f ≠ .ref a) ∨ keepIn D.K f = true)
    (he : ∀ env, starEach (e :: es) env = (false, eval e env) :: starEach es env) (hst : NoStar es) : SE D n cs (.Call (.Name id pp) (e :: es) [] pos) (fun ρ P => W ρ fun vs => C vs P) :=
  SE.call hf hW0 hC hk hs hkeep (fun _ => arm_eval_Call_Name' _ _ _ _ _ _) fun env => ⟨_, _, he env, hst.any env⟩
end
end Mine

-- ---------- BaseS ----------
set_option maxRecDepth 100000
set_option autoImplicit false
set_option linter.all false
namespace Mine
open PySem PySem.W PyProof.Rows PySem.Calls PySem.Spec

structure StB (cl : List (Str × Addr)) (L : Addr) (s s' : Shared) : Prop where
  keep : ∀ b o, b ≠ L → (∀ x, cl.lookup x ≠ some b) → s.heap.get? b = some o → s'.heap.get? b = some o
  gens : s'.gens = s.gens
  drawn : s'.drawn = s.drawn
  os : s'.os = s.os
section
variable {cl : List (Str × Addr)} {L : Addr} {s s' s'' : Shared}
theorem StB.refl : StB cl L s s := ⟨fun _ _ _ _ e => e, rfl, rfl, rfl⟩
theorem StB.trans (x : StB cl L s s') (y : StB cl L s' s'') : StB cl L s s'' :=
  ⟨fun b o h1 h2 e => y.keep b o h1 h2 (x.keep b o h1 h2 e), y.gens.trans x.gens, y.drawn.trans x.drawn, y.os.trans x.os⟩
theorem Stp.toB (x : Stp s s') : StB cl L s s' := ⟨fun b o _ _ e => x.keep b o e, x.gens, x.drawn, x.os⟩
theorem StB.keep₀ {D : Wd} {cs : Scope} {h₀ : Heap} {m : Str → Option Value} {ρ : Env1} (t : StB cl L s s') (F : FI D cs cl h₀ L m s.heap ρ) : Keeps h₀ s'.heap := by
  intro b o e
  refine t.keep b o (fun q => ?_) (fun x q => ?_) (F.fr.keep b o e)
  · exact Nat.ne_of_lt (Nat.lt_of_lt_of_le (Heap.lt_size e) F.fr.above) q
  · rw [(F.cnew x b q).1] at e; cases e
theorem StB.seq {D : Wd} {cs : Scope} {h₀ : Heap} {m : Str → Option Value} {ρ : Env1} (t : StB cl L s s') (F : FI D cs cl h₀ L m s.heap ρ) : SeqKeeps s.heap s'.heap := by
  intro b o ⟨xs', k', hd⟩ e
  refine t.keep b o (fun q => ?_) (fun z q => ?_) e
  · obtain ⟨oL, es, ep, h1, h2, _⟩ := F.fr.ns
    rw [q, h1] at e; cases e; rw [hd] at h2; cases h2
  · obtain ⟨v₀, oc, h1, h2⟩ := F.cell z b q
    rw [h1] at e; cases e; rw [hd] at h2; cases h2
end

theorem seqKeeps_of_ns {h h' : Heap} {L : Addr} {m : Str → Option Value} (n : h.Ns L m) (hs : Heap.SameBut L h h') : SeqKeeps h h' := by
  intro b o ⟨xs, k, hd⟩ e
  refine (hs.2 b fun q => ?_).trans e
  obtain ⟨oL, es, ep, h1, h2, _⟩ := n
  rw [q, h1] at e; cases e; rw [hd] at h2; cases h2
theorem seqKeeps_of_cell {h h' : Heap} {c : Addr} {v : Option Value} (n : h.IsCell c v) (hs : Heap.SameBut c h h') : SeqKeeps h h' := by
  intro b o ⟨xs, k, hd⟩ e
  refine (hs.2 b fun q => ?_).trans e
  obtain ⟨oL, h1, h2⟩ := n
  rw [q, h1] at e; cases e; rw [hd] at h2; cases h2

section
variable {D : Wd} {n : Nat} {cs : Scope}

theorem store_sound {A : Around} {h₀ : Heap} {L : Addr} {a : Option Addr × Option Addr} {ccd : Value} {cn : Str} {cl : List (Str × Addr)} {m : Str → Option Value} {s : Shared} {ρ : Env1} {x : Str} {i : Nat} {kd : NameKind} {pv : PV} {v : Value} {Q : Unit → Shared → Prop}
    (F : FI D cs cl h₀ L m s.heap ρ) (hx : At cs x i kd) (hk : kd = .local ∨ kd = .cell) (r : RepV s.heap pv v)
    (hQ : ∀ m' s', FI D cs cl h₀ L m' s'.heap (setV ρ i pv) → StB cl L s s' → Q () s') :
    wpAny (model D.prog D.w) A (storeName (envG cn cs L a ccd cl) x v) Q NoE s := by
  rcases hk with rfl | rfl
  · refine wpAny_storeName_local (F.lk hx) F.fr.ns (fun h' hn hs => ?_) (by show (cs.kind == .class || (cs.kind == .module && L != mainGlobals)) = false; rw [F.kind]; rfl)
    have sk := seqKeeps_of_ns F.fr.ns hs
    refine hQ (fun y => if y = x then some v else m y) _ ⟨F.gf, F.fr.set hn hs, F.kind, F.nd, F.dbg, F.cnew, F.cinj, F.cellk, ?_, ?_⟩ ⟨fun b o hb _ e => (hs.2 b hb).trans e, rfl, rfl, rfl⟩
    · intro y c h1
      obtain ⟨v₀, o, h2, h3⟩ := F.cell y c h1
      exact ⟨v₀, o, (hs.2 c (F.cnew y c h1).2).trans h2, h3⟩
    · intro j y kd' pv' hj hp
      rcases setV_get hp with ⟨rfl, e⟩ | ⟨hne, e⟩
      · cases e
        obtain ⟨rfl, rfl⟩ : x = y ∧ NameKind.local = kd' := by have := hx.symm.trans hj; simpa using this
        exact ⟨v, r.keepsSeq sk, .inl ⟨rfl, by simp⟩⟩
      · obtain ⟨u, ru, yu⟩ := F.rep j y kd' pv' hj e
        have hxy : y ≠ x := fun q => by subst q; exact hne (nodup_idx F.nd hj hx)
        refine ⟨u, ru.keepsSeq sk, ?_⟩
        rcases yu with ⟨q, q'⟩ | ⟨q, c, h1, o, h2, h3⟩
        · exact .inl ⟨q, by simpa [hxy] using q'⟩
        · exact .inr ⟨q, c, h1, o, (hs.2 c (F.cnew y c h1).2).trans h2, h3⟩
  · obtain ⟨c, hc⟩ := F.cellk x (F.lk hx)
    obtain ⟨v₀, hcell⟩ := F.cell x c hc
    refine wpAny_storeName_cell F.kind (F.lk hx) hc hcell fun h' hn hs => ?_
    have sk := seqKeeps_of_cell hcell hs
    refine hQ m _ ⟨F.gf, ⟨F.fr.ns.sameBut hs (Ne.symm (F.cnew x c hc).2), fun b ob e => (hs.2 b fun q => ?_).trans (F.fr.keep b ob e), F.fr.above⟩, F.kind, F.nd, F.dbg, F.cnew, F.cinj, F.cellk, ?_, ?_⟩
      ⟨fun b o _ hb e => (hs.2 b fun q => hb x (q ▸ hc)).trans e, rfl, rfl, rfl⟩
    · rw [q, (F.cnew x c hc).1] at e; cases e
    · intro y c' h1
      obtain ⟨v₁, o, h2, h3⟩ := F.cell y c' h1
      by_cases hcc : c' = c
      · subst hcc; exact ⟨some v, hn⟩
      · exact ⟨v₁, o, (hs.2 c' hcc).trans h2, h3⟩
    · intro j y kd' pv' hj hp
      rcases setV_get hp with ⟨rfl, e⟩ | ⟨hne, e⟩
      · cases e
        obtain ⟨rfl, rfl⟩ : x = y ∧ NameKind.cell = kd' := by have := hx.symm.trans hj; simpa using this
        exact ⟨v, r.keepsSeq sk, .inr ⟨.inl rfl, c, hc, hn⟩⟩
      · obtain ⟨u, ru, yu⟩ := F.rep j y kd' pv' hj e
        have hxy : y ≠ x := fun q => by subst q; exact hne (nodup_idx F.nd hj hx)
        refine ⟨u, ru.keepsSeq sk, ?_⟩
        rcases yu with ⟨q, q'⟩ | ⟨q, c', h1, o, h2, h3⟩
        · exact .inl ⟨q, q'⟩
        · have : c' ≠ c := fun q => hxy (F.cinj y x c' h1 (q ▸ hc))
          exact .inr ⟨q, c', h1, o, (hs.2 c' this).trans h2, h3⟩

abbrev TrS := Env1 → (Env1 → Prop) → (PV → Prop) → Prop

def S1 (D : Wd) (n : Nat) (cs : Scope) (st : Stmt) (W : TrS) : Prop :=
  ∀ (A : Around) (h₀ : Heap) (L : Addr) (a : Option Addr × Option Addr) (ccd : Value) (cn : Str) (cl : List (Str × Addr)) (m : Str → Option Value) (s : Shared) (ρ : Env1) (N : Env1 → Prop) (R : PV → Prop) (Q : Flow → Shared → Prop),
    Room A n → FI D cs cl h₀ L m s.heap ρ → W ρ N R →
    (∀ ρ' m' s', N ρ' → FI D cs cl h₀ L m' s'.heap ρ' → StB cl L s s' → Q .next s') →
    (∀ pv v s', R pv → RepV s'.heap pv v → StB cl L s s' → Q (.ret v) s') →
    wpAny (model D.prog D.w) A (exec st (envG cn cs L a ccd cl)) Q NoE s
def SS (D : Wd) (n : Nat) (cs : Scope) (st : List Stmt) (W : TrS) : Prop :=
  ∀ (A : Around) (h₀ : Heap) (L : Addr) (a : Option Addr × Option Addr) (ccd : Value) (cn : Str) (cl : List (Str × Addr)) (m : Str → Option Value) (s : Shared) (ρ : Env1) (N : Env1 → Prop) (R : PV → Prop) (Q : Flow → Shared → Prop),
    Room A n → FI D cs cl h₀ L m s.heap ρ → W ρ N R →
    (∀ ρ' m' s', N ρ' → FI D cs cl h₀ L m' s'.heap ρ' → StB cl L s s' → Q .next s') →
    (∀ pv v s', R pv → RepV s'.heap pv v → StB cl L s s' → Q (.ret v) s') →
    wpAny (model D.prog D.w) A (execs st (envG cn cs L a ccd cl)) Q NoE s

theorem SS.nil : SS D n cs [] (fun ρ N _ => N ρ) := by
  intro A h₀ L a ccd cn cl m s ρ N R Q hA F hW hN hR
  exact wpAny_execs_nil (hN ρ m s hW F .refl)
theorem SS.cons {st : Stmt} {r : List Stmt} {W₁ W₂ : TrS} (h₁ : S1 D n cs st W₁) (h₂ : SS D n cs r W₂) : SS D n cs (st :: r) (fun ρ N R => W₁ ρ (fun ρ' => W₂ ρ' N R) R) := by
  intro A h₀ L a ccd cn cl m s ρ N R Q hA F hW hN hR
  refine wpAny_execs_cons (h₁ A h₀ L a ccd cn cl m s ρ _ _ _ hA F hW (fun ρ' m' s' hW' F' t' => ?_) (fun pv v s' hp hr ht => hR pv v s' hp hr ht))
  exact h₂ A h₀ L a ccd cn cl m' s' ρ' _ _ _ hA F' hW' (fun ρ'' m'' s'' hn F'' t'' => hN _ _ _ hn F'' (t'.trans t'')) (fun pv v s'' hp hr ht => hR _ _ _ hp hr (t'.trans ht))

/-- an assertion of one's own behind a statement -/
theorem S1.cut {st : Stmt} {W : TrS} (h : S1 D n cs st W) : S1 D n cs st (fun ρ N R => ∃ N₀ : Env1 → Prop, W ρ N₀ R ∧ ∀ ρ', N₀ ρ' → N ρ') := by
  intro A h₀ L a ccd cn cl m s ρ N R Q hA F hW hN hR
  obtain ⟨N₀, hW, hc⟩ := hW
  exact h A h₀ L a ccd cn cl m s ρ _ _ _ hA F hW (fun ρ' m' s' hn F' t' => hN _ _ _ (hc _ hn) F' t') hR

theorem S1.no {st : Stmt} : S1 D n cs st (fun _ _ _ => False) := by
  intro A h₀ L a ccd cn cl m s ρ N R Q hA F hW hN hR
  exact hW.elim

theorem S1.raise {a b : Option Expr} {c : Pos} : S1 D n cs (.Raise a b c) (fun _ _ _ => False) := S1.no

theorem S1.assign {x : Str} {p pos : Pos} {e : Expr} {i : Nat} {kd : NameKind} {W : Env1 → (PV → Prop) → Prop} (h : SE D n cs e W) (hx : At cs x i kd) (hk : kd = .local ∨ kd = .cell)
    (hs : ∀ env, swapsWith e (some (.Name x p)) pos.line env = pure false) : S1 D n cs (.Assign [.Name x p] e pos) (fun ρ N _ => W ρ fun v => N (setV ρ i v)) := by
  intro A h₀ L a ccd cn cl m s ρ N R Q hA F hW hN hR
  refine wpAny_Assign_Name (h A h₀ L a ccd cn cl m s ρ _ _ hA F hW fun pv v s₁ hp hr ht => ?_) (hs _)
  exact store_sound (F.after ht.keep) hx hk hr fun m' s' F' t' => hN _ _ _ hp F' (ht.toB.trans t')

theorem S1.aug {x : Str} {p pos : Pos} {op : Operator} {e : Expr} {i : Nat} {kd : NameKind} {W : Env1 → (PV → Prop) → Prop} (h : SE D n cs e W) (hx : At cs x i kd) (hk : kd = .local) :
    S1 D n cs (.AugAssign (.Name x p) op e pos) (fun ρ N _ => getV ρ i fun old => W ρ fun v => augVC op old v fun r => N (setV ρ i r)) := by
  subst hk
  intro A h₀ L a ccd cn cl m s ρ N R Q hA F hW hN hR
  obtain ⟨pv, e', hp⟩ := getV_out hW
  obtain ⟨v, r, y⟩ := F.rep i x .local pv hx e'
  rcases y with ⟨_, hm⟩ | ⟨q | q, _⟩
  · refine wpAny_AugAssign_Name (wpAny_loadName_local F.kind (F.lk hx) F.fr.ns hm ?_)
    refine h A h₀ L a ccd cn cl m s ρ _ _ hA F hp fun pv' v' s₁ hp' hr' ht' => ?_
    refine augVC_sound hp' (r.keepsSeq ht'.keep.seq) hr' fun pv'' v'' s₂ hp'' hr'' ht'' => ?_
    exact store_sound (F.after (ht'.keep.trans ht''.keep)) hx (.inl rfl) hr'' fun m' s' F' t' => hN _ _ _ hp'' F' ((ht'.toB.trans ht''.toB).trans t')
  · cases q
  · cases q

theorem S1.ite {t : Expr} {b o : List Stmt} {pos : Pos} {Wt : Env1 → (Bool → Prop) → Prop} {Wb Wo : TrS} (ht : ST D n cs t Wt) (hb : SS D n cs b Wb) (ho : SS D n cs o Wo) :
    S1 D n cs (.If t b o pos) (fun ρ N R => Wt ρ fun c => (c = true → Wb ρ N R) ∧ (c = false → Wo ρ N R)) := by
  intro A h₀ L a ccd cn cl m s ρ N R Q hA F hW hN hR
  refine wpAny_If (ht A h₀ L a ccd cn cl m s ρ _ _ hA F hW fun c s₁ hc ht => ?_)
  cases c with
  | true => exact hb A h₀ L a ccd cn cl m s₁ ρ _ _ _ hA (F.after ht.keep) (hc.1 rfl) (fun _ _ _ hn F' t' => hN _ _ _ hn F' (ht.toB.trans t')) (fun _ _ _ hp hr t' => hR _ _ _ hp hr (ht.toB.trans t'))
  | false => exact ho A h₀ L a ccd cn cl m s₁ ρ _ _ _ hA (F.after ht.keep) (hc.2 rfl) (fun _ _ _ hn F' t' => hN _ _ _ hn F' (ht.toB.trans t')) (fun _ _ _ hp hr t' => hR _ _ _ hp hr (ht.toB.trans t'))

theorem S1.ret {e : Expr} {pos : Pos} {W : Env1 → (PV → Prop) → Prop} (h : SE D n cs e W) : S1 D n cs (.Return (some e) pos) (fun ρ _ R => W ρ R) := by
  intro A h₀ L a ccd cn cl m s ρ N R Q hA F hW hN hR
  exact wpAny_Return_some (h A h₀ L a ccd cn cl m s ρ _ _ hA F hW fun pv v s₁ hp hr ht => hR _ _ _ hp hr ht.toB)

theorem S1.assert {t : Expr} {pos : Pos} {Wt : Env1 → (Bool → Prop) → Prop} (ht : ST D n cs t Wt) : S1 D n cs (.Assert t none pos) (fun ρ N _ => Wt ρ fun c => c = true ∧ N ρ) := by
  intro A h₀ L a ccd cn cl m s ρ N R Q hA F hW hN hR
  refine wpAny_Assert_new hA.handled (ht A h₀ L a ccd cn cl m s ρ _ _ hA F hW fun c s₁ hc ht => ?_)
  rw [if_pos hc.1]
  exact hN _ _ _ hc.2 (F.after ht.keep) ht.toB

/-! ### several names at once -/
def setAll : List (Option PV) → List Nat → List PyData → Option (List (Option PV))
  | ρ, [], [] => some ρ
  | ρ, i :: is, x :: xs => setAll (setV ρ i (.d x)) is xs
  | _, _, _ => none

def setsVC (ρ : Env1) (is : List Nat) (xs : List PyData) (N : Env1 → Prop) : Prop := match setAll ρ is xs with
  | some ρ' => N ρ'
  | none => False

/-- the targets: names -/
inductive Tgts (cs : Scope) : List Expr → List Nat → Prop
  | nil : Tgts cs [] []
  | cons {x : Str} {p : Pos} {i : Nat} {kd : NameKind} {es : List Expr} {is : List Nat} : At cs x i kd → (kd = .local ∨ kd = .cell) → Tgts cs es is → Tgts cs (.Name x p :: es) (i :: is)

theorem Tgts.each {es : List Expr} {is : List Nat} (h : Tgts cs es is) (env : Env) : (assignEach es env).length = es.length ∧ (assignEach es env).findIdx? (·.1) = none ∧ is.length = es.length := by
  induction h with
  | nil => exact ⟨rfl, rfl, rfl⟩
  | cons a b c ih =>
    rename_i x p i kd es is
    have e : assignEach (.Name x p :: es) env = (false, assign (.Name x p) env) :: assignEach es env := rfl
    rw [e]
    refine ⟨by simp [ih.1], ?_, by simp [ih.2.2]⟩
    simp [List.findIdx?_cons, ih.2.1]

theorem tgts_sound {es : List Expr} {is : List Nat} (h : Tgts cs es is) : ∀ {A : Around} {h₀ : Heap} {L : Addr} {a : Option Addr × Option Addr} {ccd : Value} {cn : Str} {cl : List (Str × Addr)} {m : Str → Option Value} {s : Shared} {ρ : Env1} {xs : List PyData} {vs : List Value} {N : Env1 → Prop} {Q : Unit → Shared → Prop},
    FI D cs cl h₀ L m s.heap ρ → RDL s.heap xs vs → setsVC ρ is xs N → (∀ ρ' m' s', N ρ' → FI D cs cl h₀ L m' s'.heap ρ' → StB cl L s s' → Q () s') →
    wpAny (model D.prog D.w) A (assignInOrder ((assignEach es (envG cn cs L a ccd cl)).map (·.2)) vs) Q NoE s := by
  induction h with
  | nil =>
    intro A h₀ L a ccd cn cl m s ρ xs vs N Q F r hN hQ
    cases xs with
    | cons _ _ => exact hN.elim
    | nil =>
      cases vs with
      | cons _ _ => exact r.elim
      | nil => exact wpAny_pure (hQ ρ m s hN F .refl)
  | cons ha hk c ih =>
    rename_i x p i kd es is
    intro A h₀ L a ccd cn cl m s ρ xs vs N Q F r hN hQ
    cases xs with
    | nil => exact hN.elim
    | cons y ys =>
      cases vs with
      | nil => exact r.elim
      | cons v vs =>
        show wpAny (model D.prog D.w) A (do holding vs (assign (.Name x p) (envG cn cs L a ccd cl) v); assignInOrder ((assignEach es (envG cn cs L a ccd cl)).map (·.2)) vs) Q NoE s
        refine wpAny_bind (wpAny_holding (PyProof.Rows.assign_Name (store_sound F ha hk (pv := .d y) r.1 fun m' s' F' t' => ?_)))
        have sk := t'.seq F
        exact ih F' (RDL.keepsSeq sk _ _ r.2) hN fun ρ'' m'' s'' hn F'' t'' => hQ _ _ _ hn F'' (t'.trans t'')
end
end Mine

-- ---------- BaseT ----------
set_option maxRecDepth 100000
set_option autoImplicit false
set_option linter.all false
namespace Mine
open PySem PySem.W PyProof.Rows PySem.Calls PySem.Spec

section
variable {D : Wd} {n : Nat} {cs : Scope}

/-! ### tuple targets -/
def unpackVC (v : PV) (k : Nat) (ρ : Env1) (is : List Nat) (N : Env1 → Prop) : Prop := match v with
  | .d (.tuple xs) => xs.length = k ∧ setsVC ρ is xs N
  | .d (.list xs) => xs.length = k ∧ setsVC ρ is xs N
  | _ => False

theorem Stp.of {s : Shared} {h' : Heap} {t : Nat} (k : Keeps s.heap h') : Stp s { s with heap := h', toks := t } := ⟨k, rfl, rfl, rfl⟩
theorem extBut_keeps {h h' : Heap} (e : Heap.ExtBut h.objs.size h h') : Keeps h h' := fun b o q => e b o (Nat.ne_of_lt (Heap.lt_size q)) q

theorem S1.unpack {es : List Expr} {k : Nat} {tpos pos : Pos} {e : Expr} {is : List Nat} {W : Env1 → (PV → Prop) → Prop} (h : SE D n cs e W) (ht : Tgts cs es is)
    (hs : ∀ env, swapsWithSole [.Tuple es k tpos] e pos.line env = pure false) (hw : ∀ env, swappedStores [.Tuple es k tpos] e env = pure none) :
    S1 D n cs (.Assign [.Tuple es k tpos] e pos) (fun ρ N _ => W ρ fun v => unpackVC v is.length ρ is N) := by
  intro A h₀ L a ccd cn cl m s ρ N R Q hA F hW hN hR
  refine PyProof.Rows.Assign_Tuple (h A h₀ L a ccd cn cl m s ρ _ _ hA F hW fun pv v s₁ hp hr t₁ => ?_) (hs _) (hw _)
  obtain ⟨e1, e2, e3⟩ := ht.each (envG cn cs L a ccd cl)
  unfold unpackVC at hp
  split at hp
  · obtain ⟨t, vs, rfl, hT, hd⟩ := hr
    have hl := hd.length
    refine assign_Tuple_tuple hA.handled hT (by rw [e1, List.size_toArray]; omega) e2 fun h' he => ?_
    have k' : Keeps s₁.heap h' := extBut_keeps he
    exact tgts_sound ht (F.after (t₁.keep.trans k')) (hd.keeps k') hp.2 fun ρ' m' s' hn F' t' => hN _ _ _ hn F' ((t₁.trans (.of k')).toB.trans t')
  · obtain ⟨t, vs, rfl, hT, hd⟩ := hr
    have hl := hd.length
    rw [PyProof.Rows.assign_Tuple]
    refine wpAny_bind (wpAny_standAt ?_)
    unfold PySem.unpack
    rw [e2, show (assignEach es (envG cn cs L a ccd cl)).length = vs.toArray.size by rw [e1, List.size_toArray]; omega]
    refine wpAny_bind (wpAny_holding (kun_itemsOf hA.handled hT fun h' he => ?_))
    have k' : Keeps s₁.heap h' := extBut_keeps he
    exact tgts_sound ht (F.after (t₁.keep.trans k')) (hd.keeps k') hp.2 fun ρ' m' s' hn F' t' => hN _ _ _ hn F' ((t₁.trans (.of k')).toB.trans t')
  · exact hp.elim

/-- names that are bound one after the other -/
inductive NAt (cs : Scope) : List Str → List Nat → Prop
  | nil : NAt cs [] []
  | cons {x : Str} {i : Nat} {kd : NameKind} {es : List Str} {is : List Nat} : At cs x i kd → (kd = .local ∨ kd = .cell) → NAt cs es is → NAt cs (x :: es) (i :: is)

def nsetAll : List (Option PV) → List Nat → List PV → Option (List (Option PV))
  | ρ, [], [] => some ρ
  | ρ, i :: is, x :: xs => nsetAll (setV ρ i x) is xs
  | _, _, _ => none
def nsetsVC (ρ : Env1) (is : List Nat) (xs : List PV) (N : Env1 → Prop) : Prop := match nsetAll ρ is xs with
  | some ρ' => N ρ'
  | none => False

theorem names_sound {es : List Str} {is : List Nat} (h : NAt cs es is) : ∀ {A : Around} {h₀ : Heap} {L : Addr} {a : Option Addr × Option Addr} {ccd : Value} {cn : Str} {cl : List (Str × Addr)} {m : Str → Option Value} {s : Shared} {ρ : Env1} {xs : List PV} {vs : List Value} {N : Env1 → Prop} {Q : Unit → Shared → Prop},
    FI D cs cl h₀ L m s.heap ρ → RepL s.heap xs vs → nsetsVC ρ is xs N → (∀ ρ' m' s', N ρ' → FI D cs cl h₀ L m' s'.heap ρ' → StB cl L s s' → Q () s') →
    wpAny (model D.prog D.w) A (assignInOrder (es.map fun x => bindName (envG cn cs L a ccd cl) x) vs) Q NoE s := by
  induction h with
  | nil =>
    intro A h₀ L a ccd cn cl m s ρ xs vs N Q F r hN hQ
    cases xs with
    | cons _ _ => exact hN.elim
    | nil =>
      cases vs with
      | cons _ _ => exact r.elim
      | nil => exact wpAny_pure (hQ ρ m s hN F .refl)
  | cons ha hk c ih =>
    rename_i x i kd es is
    intro A h₀ L a ccd cn cl m s ρ xs vs N Q F r hN hQ
    cases xs with
    | nil => exact hN.elim
    | cons y ys =>
      cases vs with
      | nil => exact r.elim
      | cons v vs =>
        show wpAny (model D.prog D.w) A (do holding vs (bindName (envG cn cs L a ccd cl) x v); assignInOrder (es.map fun x => bindName (envG cn cs L a ccd cl) x) vs) Q NoE s
        refine wpAny_bind (wpAny_holding (bindName_ (store_sound F ha hk r.1 fun m' s' F' t' => ?_)))
        have sk := t'.seq F
        exact ih F' (RepL.keepsSeq sk r.2) hN fun ρ'' m'' s'' hn F'' t'' => hQ _ _ _ hn F'' (t'.trans t'')

theorem RepL.append {h : Heap} : ∀ {xs ys : List PV} {vs us : List Value}, RepL h xs vs → RepL h ys us → RepL h (xs ++ ys) (vs ++ us)
  | [], _, [], _, _, b => b
  | _ :: xs, _, _ :: vs, _, a, b => ⟨a.1, RepL.append a.2 b⟩
  | [], _, _ :: _, _, a, _ => a.elim
  | _ :: _, _, [], _, a, _ => a.elim
theorem RepL.reverse {h : Heap} : ∀ {xs : List PV} {vs : List Value}, RepL h xs vs → RepL h xs.reverse vs.reverse
  | [], [], _ => trivial
  | x :: xs, v :: vs, a => by
    rw [List.reverse_cons, List.reverse_cons]
    exact RepL.append (RepL.reverse a.2) ⟨a.1, trivial⟩
  | [], _ :: _, a => a.elim
  | _ :: _, [], a => a.elim

theorem S1.swap {es vs : List Expr} {k k' : Nat} {tpos vpos pos : Pos} {is : List Nat} {names : List Str} {W : Env1 → (List PV → Prop) → Prop} (h : SA D n cs vs W) (hn : NAt cs names.reverse is) (hlen : names.length = vs.length) (hl : vs.length ≤ 64)
    (hs : ∀ env, swapsWithSole [.Tuple es k tpos] (.Tuple vs k' vpos) pos.line env = pure false) (hw : ∀ (L : Addr) (a : Option Addr × Option Addr) (ccd : Value) (cn : Str) (cl : List (Str × Addr)), swappedStores [.Tuple es k tpos] (.Tuple vs k' vpos) (envG cn cs L a ccd cl) = pure (some names)) :
    S1 D n cs (.Assign [.Tuple es k tpos] (.Tuple vs k' vpos) pos) (fun ρ N _ => W ρ fun pvs => nsetsVC ρ is pvs.reverse N) := by
  intro A h₀ L a ccd cn cl m s ρ N R Q hA F hW hN hR
  refine PyProof.Rows.Assign_Tuple_swapped ?_ (hs _) (hw _ _ _ _ _)
  refine Tuple_ (h A h₀ L a ccd cn cl m s ρ _ _ vpos hA F hW fun pvs ws s₁ hp hr hlw t₁ => ?_)
  refine wpAny_newObj_type ?_ (by show ws.toArray.size ≤ sizeLine; rw [List.size_toArray, hlw, sizeLine_eq]; omega)
  have hT : IsTup (s₁.heap.push { cls := .type "tuple", data := .seq ws.toArray }) s₁.heap.objs.size ws.toArray := ⟨_, Heap.get?_push_size _ rfl, rfl, 0, rfl⟩
  rw [show names.length = ws.toArray.size by rw [List.size_toArray, hlw, hlen]]
  refine unpackItems_tuple (s := { s₁ with heap := _ }) hA.handled hT fun h' he => ?_
  have k' : Keeps s₁.heap h' := (Keeps.push _ _).trans (extBut_keeps he)
  rw [show names.reverse.map (fun n => bindName (envG cn cs L a ccd cl) n) = names.reverse.map (fun x => bindName (envG cn cs L a ccd cl) x) from rfl]
  exact names_sound hn (F.after (t₁.keep.trans k')) (RepL.reverse (RepL.keepsSeq k'.seq hr)) hp fun ρ' m' s' hn F' t' => hN _ _ _ hn F' ((t₁.trans (.of k')).toB.trans t')

/-! ### loops -/
theorem Room.mark {A : Around} {n : Nat} (r : Room A n) : Room (A.mark none) n := ⟨r.depth, r.units, r.handled⟩

def whileVC (Wt : Env1 → (Bool → Prop) → Prop) (Wb : TrS) (ρ : Env1) (N : Env1 → Prop) (R : PV → Prop) : Prop :=
  ∃ I : Nat → Env1 → Prop, (∃ k, I k ρ) ∧ ∀ k ρ', I k ρ' → Wt ρ' fun c => (c = true → Wb ρ' (fun ρ'' => ∃ k', k' < k ∧ I k' ρ'') R) ∧ (c = false → N ρ')

theorem S1.while {t : Expr} {b : List Stmt} {pos : Pos} {Wt : Env1 → (Bool → Prop) → Prop} {Wb : TrS} (ht : ST D n cs t Wt) (hb : SS D n cs b Wb) : S1 D n cs (.While t b [] pos) (whileVC Wt Wb) := by
  intro A h₀ L a ccd cn cl m s ρ N R Q hA F hW hN hR
  obtain ⟨I, ⟨k, hI⟩, turn⟩ := hW
  refine wpAny_While (codeAny_whileLoop (A := A) (fun k s' => ∃ ρ' m', I k ρ' ∧ FI D cs cl h₀ L m' s'.heap ρ' ∧ StB cl L s s') (fun k s' hs' => ?_) k ⟨ρ, m, hI, F, .refl⟩)
  obtain ⟨ρ', m', hI', F', t'⟩ := hs'
  refine wpAny_mono (ht A h₀ L a ccd cn cl m' s' ρ' _ (fun c s₁ => (if c then wpAny (model D.prog D.w) A (execs b (envG cn cs L a ccd cl)) (fun f s₃ => match f with
            | .next | .cont => ∃ k', k' < k ∧ ∃ ρ' m', I k' ρ' ∧ FI D cs cl h₀ L m' s₃.heap ρ' ∧ StB cl L s s₃
            | .brk => Q .next s₃
            | .ret v => Q (.ret v) s₃) NoE s₁ else Q .next s₁)) hA F' (turn k ρ' hI') fun c s₁ hc t₁ => ?_) (fun c s₁ hc => ?_) fun _ _ x => x.elim
  · cases c with
    | false => exact hN _ _ _ (hc.2 rfl) (F'.after t₁.keep) (t'.trans t₁.toB)
    | true =>
      refine hb A h₀ L a ccd cn cl m' s₁ ρ' _ _ _ hA (F'.after t₁.keep) (hc.1 rfl) (fun ρ'' m'' s'' hn F'' t'' => ?_) (fun pv v s'' hp hr t'' => hR _ _ _ hp hr ((t'.trans t₁.toB).trans t''))
      obtain ⟨k', hk', hI''⟩ := hn
      exact ⟨k', hk', ρ'', m'', hI'', F'', (t'.trans t₁.toB).trans t''⟩
  · cases c with
    | false =>
      simp only [Bool.false_eq_true, if_false] at hc ⊢
      exact wpAny_execs_nil hc
    | true =>
      simp only [if_true] at hc ⊢
      exact wpAny_mono hc (fun f s₃ h₃ => by cases f <;> exact h₃) fun _ _ x => x.elim

def forVC (i : Nat) (Wb : TrS) (v : PV) (ρ : Env1) (N : Env1 → Prop) (R : PV → Prop) : Prop := match v with
  | .d (.int e) => 0 ≤ e ∧ e < 2 ^ 60 ∧ ∃ I : Nat → Env1 → Prop, I 0 ρ ∧ (∀ j ρ', j < e.toNat → I j ρ' → Wb (setV ρ' i (.d (.int (j : Int)))) (fun ρ'' => I (j + 1) ρ'') R) ∧ ∀ ρ', I e.toNat ρ' → N ρ'
  | _ => False

theorem rangeSmall {e : Int} (h0 : 0 ≤ e) (h1 : e < 2 ^ 60) : Builtin.Range.small 0 e 1 = true ∧ Builtin.Range.rangeSize 0 e 1 = e := by
  have hs : Builtin.Range.rangeSize 0 e 1 = e := by rw [rangeSize_nat]; omega
  refine ⟨?_, hs⟩
  unfold Builtin.Range.small
  rw [hs]
  simp only [Builtin.Range.rangeFitsLong]
  simp
  omega

theorem FI.extBut {cl : List (Str × Addr)} {h₀ h h' : Heap} {L it : Addr} {m : Str → Option Value} {ρ : Env1} {oi : Obj} {vs : Array Value} (F : FI D cs cl h₀ L m h ρ) (he : Heap.ExtBut it h h') (ho : h.get? it = some oi) (hd : oi.data = .fields vs)
    (hn : h₀.get? it = none) : FI D cs cl h₀ L m h' ρ ∧ it ≠ L ∧ ∀ x, cl.lookup x ≠ some it := by
  have hL : it ≠ L := fun q => by
    obtain ⟨oL, es, ep, h1, h2, _⟩ := F.fr.ns
    rw [← q, ho] at h1; cases h1; rw [hd] at h2; cases h2
  have hc : ∀ x, cl.lookup x ≠ some it := fun x q => by
    obtain ⟨v₀, oc, h1, h2⟩ := F.cell x it q
    rw [ho] at h1; cases h1; rw [hd] at h2; cases h2
  have sk : SeqKeeps h h' := fun b o ⟨xs, k, hd'⟩ e => he b o (fun q => by rw [q, ho] at e; cases e; rw [hd] at hd'; cases hd') e
  have ck : ∀ x c v, cl.lookup x = some c → h.IsCell c v → h'.IsCell c v := fun x c v q ⟨o, h1, h2⟩ => ⟨o, he c o (fun z => hc x (z ▸ q)) h1, h2⟩
  refine ⟨⟨F.gf, ⟨F.fr.ns.extBut he (Ne.symm hL), fun b o e => he b o (fun q => by rw [q, hn] at e; cases e) (F.fr.keep b o e), F.fr.above⟩, F.kind, F.nd, F.dbg, F.cnew, F.cinj, F.cellk, fun x c q => ?_, fun i x kd pv a b => ?_⟩, hL, hc⟩
  · obtain ⟨v₀, z⟩ := F.cell x c q; exact ⟨v₀, ck x c _ q z⟩
  · obtain ⟨v, r, y⟩ := F.rep i x kd pv a b
    refine ⟨v, r.keepsSeq sk, ?_⟩
    rcases y with y | ⟨y, c, y1, y2⟩
    · exact .inl y
    · exact .inr ⟨y, c, y1, ck x c _ y1 y2⟩

theorem S1.forRange {x : Str} {px p1 p2 p3 : Pos} {e : Expr} {b : List Stmt} {i : Nat} {W : Env1 → (PV → Prop) → Prop} {Wb : TrS}
    (hx : At cs x i .local) {ir : Nat} (hr : At cs (Str.ofString "range") ir .globalImplicit) (hrk : nsIn D.K mainGlobals (Str.ofString "range") = some none) (h : SE D n cs e W) (hb : SS D n cs b Wb)
    (hst : ∀ env, starEach [e] env = [(false, eval e env)])
    (hns : ∀ env v, foldedSetIterable (.Call (.Name (Str.ofString "range") p1) [e] [] p2) env v = pure v) :
    S1 D n cs (.For (.Name x px) (.Call (.Name (Str.ofString "range") p1) [e] [] p2) b [] p3) (fun ρ N R => W ρ fun v => forVC i Wb v ρ N R) := by
  intro A h₀ L a ccd cn cl m s ρ N R Q hA F hW hN hR
  show wpAny _ _ (do
    standAt p3
    let v ← foldedSetIterable (.Call (.Name (Str.ofString "range") p1) [e] [] p2) (envG cn cs L a ccd cl) (← eval (.Call (.Name (Str.ofString "range") p1) [e] [] p2) (envG cn cs L a ccd cl))
    standAt p2
    runOwn (.forLoop (.Name x px) (← holding [v] (pyIter v)) b [] (envG cn cs L a ccd cl)) (envG cn cs L a ccd cl)) _ _ _
  refine wpAny_bind (wpAny_standAt (wpAny_bind ?_))
  show wpAny _ _ (do callWith p2 (← eval (.Name (Str.ofString "range") p1) (envG cn cs L a ccd cl)) [] (backTo p2 (starEach [e] (envG cn cs L a ccd cl))) (backToKw p2 (keywordEach [] (envG cn cs L a ccd cl)))) _ _ _
  refine wpAny_bind (SE.boot (D := D) (n := n) (x := Str.ofString "range") (v := .type "range") hr hrk (by decide +kernel) (by decide) A h₀ L a ccd cn cl m s ρ (fun pv => pv = .o (.type "range")) _ hA F rfl fun pf fv s₁ e₁ r₁ t₁ => ?_)
  subst e₁
  obtain rfl : fv = _ := r₁
  refine callWith_of (P := fun _ => True) (by rw [hst]; rfl) (fun h _ => keeper_machine (by intro _ q; cases q) h) ?_
  rw [hst]
  refine evalArgs_plain (spliced_cons (x := eval e _) (h A h₀ L a ccd cn cl m s₁ ρ _ _ hA (F.after t₁.keep) hW fun pv v s₂ hp hr t₂ => wpAny_pure ⟨trivial, ?_⟩))
  unfold forVC at hp
  split at hp
  rotate_left
  · exact hp.elim
  rename_i e
  obtain ⟨q0, q1, I, hI0, turn, fin⟩ := hp
  obtain ⟨tk, rfl⟩ := hr
  obtain ⟨hsm, hsz⟩ := rangeSmall q0 q1
  have F₂ := F.after (t₁.keep.trans t₂.keep)
  refine call_range_1 ?_
  rw [hns]
  refine wpAny_bind (wpAny_pure ?_)
  refine wpAny_bind (wpAny_standAt (wpAny_bind (wpAny_holding ?_)))
  refine wpAny_pyIter_range (IsRange.new ..) hsm ?_
  rw [hsz]
  dsimp only
  refine wpAny_runOwn ?_
  obtain ⟨N', rfl⟩ := Int.eq_ofNat_of_zero_le q0
  simp only [Int.toNat_natCast] at turn fin
  generalize hH1 : s₂.heap.push { cls := .type "range", data := .fields #[.int 0 s₂.toks, .int (N' : Int) tk, .int 1 (s₂.toks + 1)] } = H1
  have k1 : Keeps s₂.heap H1 := hH1 ▸ Keeps.push _ _
  have hsz1 : s₂.heap.objs.size ≤ H1.objs.size := by rw [← hH1, Heap.size_push]; omega
  have hnone : h₀.get? H1.objs.size = none := by
    cases hq : h₀.get? H1.objs.size with
    | none => rfl
    | some o => exact absurd (Heap.lt_size (k1 _ _ (F₂.fr.keep _ _ hq))) (Nat.lt_irrefl _)
  refine codeAny_forLoop (A := A.mark none) (fun k s' => ∃ ρ' m' j, k = N' + 1 - j ∧ j ≤ N' ∧ I j ρ' ∧ FI D cs cl h₀ L m' s'.heap ρ' ∧ IsRangeIter s'.heap H1.objs.size (j : Nat) ((N' : Int) - (j : Nat)) 1 ∧ StB cl L s s') (fun k s' hs' => ?_) (N' + 1)
    ⟨ρ, m, 0, rfl, Nat.zero_le _, hI0, F₂.after (k1.trans (.push _ _)), by simpa using Heap.get?_push_size _ rfl, (t₁.trans t₂).toB.trans (Stp.of (s := s₂) (k1.trans (.push _ _))).toB⟩
  obtain ⟨ρ', m', j, rfl, hj, hI, F', hit, t'⟩ := hs'
  by_cases hlt : j < N'
  · refine wpAny_mono (wpAny_pyNext_range_item (E := NoE) hit (by omega) fun h₁ hit₁ hs₁ => ?_) (fun _ _ q => q) fun _ _ q => q.elim
    obtain ⟨F₁, iL, ic⟩ := F'.extBut hs₁.extBut hit rfl hnone
    have tI : StB cl L s { s' with heap := h₁, toks := s'.toks + 1 } := ⟨fun b o hb hcb eb => hs₁.extBut b o (fun q => by
        have := Heap.lt_size (k1 _ _ ((t₁.keep.trans t₂.keep) _ _ eb)); rw [q] at this; exact Nat.lt_irrefl _ this) (t'.keep b o hb hcb eb), t'.gens, t'.drawn, t'.os⟩
    refine wpAny_mono (wpAny_assign_Name (E := NoE) (store_sound (s := { s' with heap := h₁, toks := s'.toks + 1 }) F₁ hx (.inl rfl) (pv := .d (.int (j : Int))) ⟨_, rfl⟩ fun m'' s'' F'' t'' => ?_)) (fun _ _ q => q) fun _ _ q => q.elim
    have it2 := t''.keep _ _ iL ic hit₁
    refine wpAny_mono (hb (A.mark none) h₀ L a ccd cn cl m'' s'' _ _ _ (fun f s₃ => match f with
            | .next | .cont => ∃ k', k' < N' + 1 - j ∧ ∃ ρ' m' j', k' = N' + 1 - j' ∧ j' ≤ N' ∧ I j' ρ' ∧ FI D cs cl h₀ L m' s₃.heap ρ' ∧ IsRangeIter s₃.heap H1.objs.size (j' : Nat) ((N' : Int) - (j' : Nat)) 1 ∧ StB cl L s s₃
            | .brk => Q .next s₃
            | .ret v => Q (.ret v) s₃) hA.mark F'' (turn j ρ' hlt hI) (fun ρ3 m3 s3 hn F3 t3 => ?_) (fun pv v s3 hp hr t3 => hR _ _ _ hp hr ((tI.trans t'').trans t3))) (fun f s3 h3 => by cases f <;> exact h3) fun _ _ q => q.elim
    refine ⟨N' + 1 - (j + 1), by omega, ρ3, m3, j + 1, rfl, hlt, hn, F3, ?_, (tI.trans t'').trans t3⟩
    have it3 := t3.keep _ _ iL ic it2
    have e1 : (((j + 1 : Nat) : Int)) = (j : Int) + 1 := by push_cast; rfl
    have e2 : (N' : Int) - ((j : Int) + 1) = (N' : Int) - (j : Int) - 1 := by omega
    rw [e1, e2]; exact it3
  · have hjn : j = N' := by omega
    subst hjn
    refine wpAny_mono (wpAny_pyNext_range_end (E := NoE) hA.mark.handled hit (by omega) fun h₁ he₁ => ?_) (fun _ _ q => q) fun _ _ q => q.elim
    obtain ⟨F₁, iL, ic⟩ := F'.extBut he₁ hit rfl hnone
    refine wpAny_execs_nil (hN _ _ _ (fin _ hI) F₁ ⟨fun b o hb hcb eb => he₁ b o (fun q => by
        have := Heap.lt_size (k1 _ _ ((t₁.keep.trans t₂.keep) _ _ eb)); rw [q] at this; exact Nat.lt_irrefl _ this) (t'.keep b o hb hcb eb), t'.gens, t'.drawn, t'.os⟩)
end
end Mine

-- ---------- BaseF ----------
set_option maxRecDepth 100000
set_option autoImplicit false
set_option linter.all false
namespace Mine
open PySem PySem.W PyProof.Rows PySem.Calls PySem.Spec

theorem lookup_append_none {β : Type} {x : Str} : ∀ {l r : List (Str × β)}, l.lookup x = none → (l ++ r).lookup x = r.lookup x
  | [], _, _ => rfl
  | (y, b) :: l, r, h => by
    simp only [List.cons_append, List.lookup_cons] at h ⊢
    cases e : x == y with
    | true => rw [e] at h; cases h
    | false => rw [e] at h; exact lookup_append_none h
theorem lookup_append_some {β : Type} {x : Str} {b : β} : ∀ {l r : List (Str × β)}, l.lookup x = some b → (l ++ r).lookup x = some b
  | [], _, h => by simp at h
  | (y, c) :: l, r, h => by
    simp only [List.cons_append, List.lookup_cons] at h ⊢
    cases e : x == y with
    | true => rw [e] at h; exact h
    | false => rw [e] at h; exact lookup_append_some h
theorem lookup_none_of {β : Type} {x : Str} : ∀ {l : List (Str × β)}, x ∉ l.map (·.1) → l.lookup x = none
  | [], _ => rfl
  | (y, c) :: l, h => by
    simp only [List.map_cons, List.mem_cons, not_or] at h
    rw [List.lookup_cons, show (x == y) = false from beq_eq_false_iff_ne.mpr h.1]
    exact lookup_none_of h.2
theorem lookup_mem {β : Type} {x : Str} {b : β} : ∀ {l : List (Str × β)}, l.lookup x = some b → (x, b) ∈ l
  | [], h => by simp at h
  | (y, c) :: l, h => by
    rw [List.lookup_cons] at h
    cases e : x == y with
    | true => rw [e] at h; cases h; rw [beq_iff_eq.mp e]; exact .head _
    | false => rw [e] at h; exact .tail _ (lookup_mem h)
/-- binds, read from behind -/
theorem zip_lookup : ∀ {ps : List Str} {vs : List Value} {i : Nat} {x : Str} {v : Value}, ps.Nodup → ps[i]? = some x → vs[i]? = some v → (ps.zip vs).reverse.lookup x = some v
  | [], _, _, _, _, _, h, _ => by simp at h
  | _ :: _, [], _, _, _, _, _, h => by simp at h
  | p :: ps, u :: vs, 0, x, v, hn, hx, hv => by
    simp at hx hv; subst hx; subst hv
    have hp : p ∉ ps := (List.nodup_cons.mp hn).1
    simp only [List.zip_cons_cons, List.reverse_cons]
    rw [lookup_append_none (lookup_none_of ?_)]
    · simp
    · intro hm
      obtain ⟨q, hq, rfl⟩ := List.mem_map.mp hm
      exact hp (List.of_mem_zip (List.mem_reverse.mp hq)).1
  | p :: ps, u :: vs, i + 1, x, v, hn, hx, hv => by
    simp only [List.getElem?_cons_succ] at hx hv
    simp only [List.zip_cons_cons, List.reverse_cons]
    exact lookup_append_some (zip_lookup (List.nodup_cons.mp hn).2 hx hv)

theorem RepL.get {h : Heap} : ∀ {ps : List PV} {vs : List Value} (i : Nat) {p : PV}, RepL h ps vs → ps[i]? = some p → ∃ v, vs[i]? = some v ∧ RepV h p v
  | [], _, i, _, _, e => by simp at e
  | _ :: _, [], _, _, e, _ => e.elim
  | x :: xs, v :: vs, 0, p, e, h => by simp at h; subst h; exact ⟨v, rfl, e.1⟩
  | x :: xs, v :: vs, i + 1, p, e, h => by
    simp only [List.getElem?_cons_succ] at h ⊢
    exact RepL.get i e.2 h

/-- the frame's names at the call -/
def init (pvs : List PV) (k : Nat) : Env1 := pvs.map some ++ List.replicate k none

theorem init_get {pvs : List PV} {k i : Nat} {pv : PV} (h : (init pvs k)[i]? = some (some pv)) : pvs[i]? = some pv := by
  unfold init at h
  rcases Nat.lt_or_ge i pvs.length with q | q
  · rw [List.getElem?_append_left (by simpa using q)] at h
    simpa using h
  · rw [List.getElem?_append_right (by simpa using q)] at h
    have := List.mem_of_getElem? h
    have := List.eq_of_mem_replicate this
    cases this

section
variable {D : Wd} {n : Nat}

theorem FS.def {f : Addr} {oc : Value} {od : Option Addr} {osl : Array (Option Value)} {name qual : Str} {params : Arguments} {body : List Stmt} {scope : Scope} {dV kV doc pm cdv ct : Value} {an : Option Addr}
    {ps : List Str} {k : Nat} {dfl : List PV} {W : TrS} {C : List PV → (PV → Prop) → Prop}
    (ho : D.K.lookup f = some ⟨oc, od, .func (fnOf name qual params body scope dV kV doc pm an cdv ct), osl⟩)
    (hcd : codeIn D.K cdv qual = true)
    (hb : ∀ (s : Shared) (vs : List Value), GF D s.heap → vs.length = k → ∃ vs', BindsTo s (fnOf name qual params body scope dV kV doc pm an cdv ct) ⟨vs, []⟩ (ps.zip (vs ++ vs')) ∧ RepL s.heap dfl vs')
    (hnames : scope.names.take ps.length = ps.map fun x => (x, .local))
    (hlk : ∀ x ∈ ps, scope.names.lookup x = some .local)
    (hnd : (scope.names.map (·.1)).Nodup) (hdbg : scope.names.all (fun q => !(q.1 == ("__debug__" : Str)) && !(q.1 == ("__classdict__" : Str))) = true) (hnp : ps.Nodup) (hcell : ∀ x ∈ scope.names, x.2 ≠ .cell)
    (hco : scope.isCoroutine = false) (hgen : scope.isGenerator = false) (hk : scope.kind = .function)
    (hS : SS D n scope body W)
    (h2 : ps.length = k + dfl.length) (hlen : ∀ pvs P, C pvs P → pvs.length = k)
    (hC : ∀ pvs P, C pvs P → W (init (pvs ++ dfl) (scope.names.length - ps.length)) (fun _ => P (.d .none)) P) :
    FS D (.ref f) (n + 1) C := by
  intro A s pvs vs P Q hA G hr hCp hQ
  have h1 := hlen pvs P hCp
  have hW := hC pvs P hCp
  obtain ⟨vs', hbind, hr'⟩ := hb s vs G (by rw [← hr.length]; exact h1)
  have hR : RepL s.heap (pvs ++ dfl) (vs ++ vs') := RepL.append hr hr'
  refine wpAny_call (codeAny_call_def (fd := fnOf name qual params body scope dV kV doc pm an cdv ct) (body := body) (by have := hA.depth; omega) (G.X _ _ ho) rfl G.T.nolimit (codeRec_of G.X hcd) rfl hbind hcell
    (fun y hy => hlk _ (List.of_mem_zip hy).1) (fun h₁ hns hk₁ => ?_) hco hgen hk)
  have F : FI D scope [] s.heap s.heap.objs.size (fun y => (ps.zip (vs ++ vs')).reverse.lookup y) h₁ (init (pvs ++ dfl) (scope.names.length - ps.length)) := by
    refine ⟨G, ⟨hns, hk₁, Nat.le_refl _⟩, hk, hnd, hdbg, fun _ _ q => by simp at q, fun _ _ _ q => by simp at q, fun x hx => ?_, fun _ _ q => by simp at q, fun i x kd pv hi hp => ?_⟩
    · have := lookup_mem hx
      exact absurd rfl (hcell _ this)
    · have hpv := init_get hp
      obtain ⟨v, hv, rv⟩ := hR.get i hpv
      have hlt : i < ps.length := by
        rw [h2, ← h1]
        have := List.getElem?_eq_some_iff.mp hpv
        obtain ⟨q, _⟩ := this
        simpa using q
      have e1 : (scope.names.take ps.length)[i]? = some (x, kd) := by rw [List.getElem?_take]; simp [hlt, hi]
      rw [hnames] at e1
      simp only [List.getElem?_map, Option.map_eq_some_iff] at e1
      obtain ⟨x', hx', e2⟩ := e1
      cases e2
      exact ⟨v, rv.keepsSeq (Keeps.seq hk₁), .inl ⟨rfl, zip_lookup hnp hx' hv⟩⟩
  have H := hS (A.deeper (envX qual scope s.heap.objs.size f cdv [])) s.heap s.heap.objs.size (some f, some s.heap.objs.size) cdv (qual ++ ".<locals>.") [] _ { s with heap := h₁, toks := s.toks + (ps.zip (vs ++ vs')).length } _ _ _
    (fun fl s' => match (Except.ok (Flow.ret (match fl with | .ret v => v | _ => .none)) : Result) with | .ok (.ret v) => Q v s' | .ok _ => False | .error e => NoE e s') (hA.deeper _) F hW
    (fun ρ' m' s' hp F' t' => hQ _ _ s' hp rfl ⟨t'.keep₀ F, t'.gens, t'.drawn, t'.os⟩)
    (fun pv v s' hp hr t' => hQ _ _ s' hp hr ⟨t'.keep₀ F, t'.gens, t'.drawn, t'.os⟩)
  exact wpAny_mono H (fun _ _ x => x) fun _ _ x => x.elim
end

end Mine

-- ---------- BaseB ----------
set_option maxRecDepth 100000
set_option autoImplicit false
set_option linter.all false
namespace Mine
open PySem PySem.W PyProof.Rows PySem.Calls PySem.Spec

theorem RepL.one {h : Heap} {p : PV} : ∀ {vs : List Value}, RepL h [p] vs → ∃ v, vs = [v] ∧ RepV h p v
  | [v], e => ⟨v, rfl, e.1⟩
  | [], e => e.elim
  | _ :: _ :: _, e => e.2.elim
theorem RepL.two {h : Heap} {p q : PV} : ∀ {vs : List Value}, RepL h [p, q] vs → ∃ v u, vs = [v, u] ∧ RepV h p v ∧ RepV h q u
  | [v, u], e => ⟨v, u, rfl, e.1, e.2.1⟩
  | [], e => e.elim
  | [_], e => e.2.elim
  | _ :: _ :: _ :: _, e => e.2.2.elim
section
variable {D : Wd} {n : Nat} {cs : Scope}

def C_int : List PV → (PV → Prop) → Prop
  | [.d (.int x)], P => P (.d (.int x))
  | _, _ => False
theorem FS.int : FS D (.type "int") 0 C_int := by
  intro A s pvs vs P Q hA G hr hC hQ
  unfold C_int at hC
  split at hC
  · obtain ⟨_, rfl, t, rfl⟩ := hr.one
    exact call_int_int (hQ _ _ _ hC ⟨_, rfl⟩ (.refl _))
  · exact hC.elim

def C_abs : List PV → (PV → Prop) → Prop
  | [.d (.int x)], P => P (.d (.int (if x < 0 then -x else x)))
  | _, _ => False
theorem FS.abs : FS D (.builtin "abs") 0 C_abs := by
  intro A s pvs vs P Q hA G hr hC hQ
  unfold C_abs at hC
  split at hC
  · obtain ⟨_, rfl, t, rfl⟩ := hr.one
    exact call_abs_int (fun u tk => hQ _ _ _ hC ⟨_, rfl⟩ .tok)
  · exact hC.elim

def C_len : List PV → (PV → Prop) → Prop
  | [.d (.list xs)], P => xs.length ≤ 1000000 ∧ P (.d (.int xs.length))
  | _, _ => False
theorem FS.len : FS D (.builtin "len") 0 C_len := by
  intro A s pvs vs P Q hA G hr hC hQ
  unfold C_len at hC
  split at hC
  · obtain ⟨_, rfl, l, us, rfl, hl, hd⟩ := hr.one
    have hlen := hd.length
    obtain ⟨h1, h2⟩ := hC
    have h3 : us.toArray.size = us.length := List.size_toArray ..
    rename_i xs
    refine call_len_list hl (by rw [h3, ← hlen]; omega) ?_
    rw [h3, ← hlen]
    exact hQ _ _ _ h2 ⟨_, rfl⟩ .tok
  · exact hC.elim

def C_divmod : List PV → (PV → Prop) → Prop
  | [.d (.int x), .d (.int y)], P => y ≠ 0 ∧ Builtin.divisionGoesByPylong x y = false ∧ P (.d (.tuple [.int (x.fdiv y), .int (x.fmod y)]))
  | _, _ => False
theorem FS.divmod : FS D (.builtin "divmod") 0 C_divmod := by
  intro A s pvs vs P Q hA G hr hC hQ
  unfold C_divmod at hC
  split at hC
  · obtain ⟨_, _, rfl, ⟨t, rfl⟩, t', rfl⟩ := hr.two
    exact divmod_int hC.1 (hQ _ _ _ hC.2.2 ⟨_, [_, _], rfl, ⟨_, Heap.get?_push_size _ rfl, rfl, 0, rfl⟩, ⟨_, rfl⟩, ⟨_, rfl⟩, trivial⟩ (Stp.of (.push _ _))) (.inl hC.2.1)
  · exact hC.elim

def C_isint : List PV → (PV → Prop) → Prop
  | [.d (.int _), .o (.type "int")], P => P (.d (.bool true))
  | _, _ => False
theorem FS.isint : FS D (.builtin "isinstance") 0 C_isint := by
  intro A s pvs vs P Q hA G hr hC hQ
  unfold C_isint at hC
  split at hC
  · obtain ⟨_, u, rfl, ⟨t, rfl⟩, hu⟩ := hr.two
    obtain rfl : u = _ := hu
    exact call_isinstance (isinstance_true (Tx := "int") F.isi_meta_int F.sub_int_int) ⟨rfl, hQ _ _ _ hC rfl .tok⟩
  · exact hC.elim

/-! ### bit_length -/
def bitVC : PV → (PV → Prop) → Prop
  | .d (.int x), P => P (.d (.int (Builtin.Int.intBits x)))
  | _, _ => False
theorem SE.bits {o : Expr} {apos pos : Pos} {W : Env1 → (PV → Prop) → Prop} (h : SE D n cs o W)
    (he : ∀ env, ∃ pl, eval (.Call (.Attribute o (Str.ofString "bit_length") apos) [] [] pos) env = (do
          let ov ← eval o env
          standAt apos.atName
          let (f, first) ← holding [ov] (getMethod ov (Str.ofString "bit_length") pl)
          callWith pos f first (backTo pos (starEach [] env)) (backToKw pos (keywordEach [] env)))) : SE D n cs (.Call (.Attribute o (Str.ofString "bit_length") apos) [] [] pos) (fun ρ P => W ρ fun a => bitVC a P) := by
  intro A h₀ L a ccd cn cl m s ρ P Q hA F hW hQ
  obtain ⟨pl, he⟩ := he (envG cn cs L a ccd cl)
  refine methodCall_KW (pl := pl) (h A h₀ L a ccd cn cl m s ρ _ _ hA F hW fun pv v s₁ hp hr ht => ?_) he
  unfold bitVC at hp
  split at hp
  · obtain ⟨t, rfl⟩ := hr
    refine getMethod_int_bit_length ?_
    refine callWith_of (P := fun _ => True) rfl (fun h _ => keeper_machine (by intro _ q; cases q) h) (evalArgs_nil3 ⟨trivial, ?_⟩)
    exact call_int_bit_length (hQ _ _ _ hp ⟨_, rfl⟩ (ht.trans .tok))
  · exact hp.elim
end
end Mine

-- ---------- Plain1 ----------
set_option maxRecDepth 100000
set_option autoImplicit false
set_option linter.all false
namespace Mine
open PySem

/-! ## bits -/
def nb (M : Nat) : Nat := if M = 0 then 0 else M.log2 + 1
theorem nb_zero : nb 0 = 0 := rfl
theorem nb_pos {M : Nat} (h : M ≠ 0) : nb M = M.log2 + 1 := by simp [nb, h]
theorem intBits_nat (M : Nat) : Builtin.Int.intBits (M : Int) = nb M := by
  unfold Builtin.Int.intBits nb
  by_cases h : M = 0
  · subst h; rfl
  · have : ((M : Int) == 0) = false := by simp [h]
    rw [this]; simp [h]
theorem intBits_neg (x : Int) : Builtin.Int.intBits (-x) = Builtin.Int.intBits x := by
  unfold Builtin.Int.intBits
  by_cases h : x = 0
  · subst h; rfl
  · have h1 : (-x == 0) = false := by simpa using h
    have h2 : (x == 0) = false := by simpa using h
    rw [h1, h2, Int.natAbs_neg]
theorem intBits_abs (x : Int) : Builtin.Int.intBits x = nb x.natAbs := by
  rcases Int.natAbs_eq x with h | h
  · rw [h, intBits_nat]; simp
  · rw [h, intBits_neg, intBits_nat]; simp
theorem nb_le {M k : Nat} (h : M < 2 ^ k) : nb M ≤ k := by
  unfold nb
  split
  · exact Nat.zero_le _
  · rename_i h0
    exact (Nat.log2_lt h0).mpr h
theorem nb_lt (M : Nat) : M < 2 ^ nb M := by
  unfold nb
  split
  · rename_i h; subst h; decide
  · rename_i h0
    exact (Nat.log2_lt h0).mp (Nat.lt_succ_self _)
theorem nb_ge {M : Nat} (h : M ≠ 0) : 2 ^ (nb M - 1) ≤ M := by
  rw [nb_pos h, Nat.add_sub_cancel]
  exact (Nat.le_log2 h).mp (Nat.le_refl _)
theorem nb_pos' {M : Nat} (h : M ≠ 0) : 1 ≤ nb M := by rw [nb_pos h]; omega
theorem le_nb {M k : Nat} (h : 2 ^ k ≤ M) : k + 1 ≤ nb M := by
  have h0 : M ≠ 0 := fun q => by subst q; exact absurd h (Nat.not_le.mpr (Nat.two_pow_pos k))
  rw [nb_pos h0]
  have := (Nat.le_log2 h0).mpr h
  omega
theorem nb_eq {M k : Nat} (h1 : 2 ^ k ≤ M) (h2 : M < 2 ^ (k + 1)) : nb M = k + 1 := Nat.le_antisymm (nb_le h2) (le_nb h1)
theorem nb_mono {M N : Nat} (h : M ≤ N) : nb M ≤ nb N := nb_le (Nat.lt_of_le_of_lt h (nb_lt N))
theorem nb_shl {M : Nat} (k : Nat) (h : M ≠ 0) : nb (M * 2 ^ k) = nb M + k := by
  have h1 := nb_ge h
  have h2 := nb_lt M
  have hp := nb_pos' h
  have e : nb M + k = (nb M - 1 + k) + 1 := by omega
  rw [e]
  refine nb_eq ?_ ?_
  · rw [Nat.pow_add]; exact Nat.mul_le_mul_right _ h1
  · rw [show nb M - 1 + k + 1 = nb M + k by omega, Nat.pow_add]
    exact Nat.mul_lt_mul_of_pos_right h2 (Nat.two_pow_pos k)
theorem nb_mul_le (a b : Nat) : nb (a * b) ≤ nb a + nb b := by
  refine nb_le ?_
  rw [Nat.pow_add]
  have h1 := nb_lt a
  have h2 := nb_lt b
  rcases Nat.eq_zero_or_pos b with hb | hb
  · subst hb; rw [Nat.mul_zero]; exact Nat.mul_pos (Nat.two_pow_pos _) (Nat.two_pow_pos _)
  · exact Nat.mul_lt_mul_of_lt_of_le h1 (Nat.le_of_lt h2) (Nat.two_pow_pos _)
theorem nb_shr (M k : Nat) : nb (M / 2 ^ k) = nb M - k := by
  by_cases h : M = 0
  · subst h; rw [Nat.zero_div, nb_zero, Nat.zero_sub]
  · have h1 := nb_ge h
    have h2 := nb_lt M
    have hp := nb_pos' h
    rcases Nat.lt_or_ge k (nb M) with q | q
    · have e : nb M - k = (nb M - k - 1) + 1 := by omega
      rw [e]
      refine nb_eq ?_ ?_
      · refine (Nat.le_div_iff_mul_le (Nat.two_pow_pos k)).mpr ?_
        rw [← Nat.pow_add, show nb M - k - 1 + k = nb M - 1 by omega]; exact h1
      · refine (Nat.div_lt_iff_lt_mul (Nat.two_pow_pos k)).mpr ?_
        rw [← Nat.pow_add, show nb M - k - 1 + 1 + k = nb M by omega]; exact h2
    · rw [Nat.div_eq_of_lt (Nat.lt_of_lt_of_le h2 (Nat.pow_le_pow_right (by decide) q)), nb_zero]; omega

/-! ## trailing zeros -/
def tz (n : Nat) : Nat := if h : n = 0 then 0 else if n % 2 = 1 then 0 else tz (n / 2) + 1
termination_by n
decreasing_by omega
theorem tz_odd {n : Nat} (h : n % 2 = 1) : tz n = 0 := by
  rw [tz]; simp [h]
theorem tz_even {n : Nat} (h : n ≠ 0) : tz (2 * n) = tz n + 1 := by
  rw [tz]
  have h1 : 2 * n ≠ 0 := by omega
  have h2 : ¬ (2 * n % 2 = 1) := by omega
  simp [h1, h2]
theorem tz_pow (k : Nat) {n : Nat} (h : n ≠ 0) : tz (n * 2 ^ k) = tz n + k := by
  induction k with
  | zero => simp
  | succ k ih =>
    have hz : n * 2 ^ k ≠ 0 := Nat.mul_ne_zero h (Nat.ne_of_gt (Nat.two_pow_pos k))
    rw [Nat.pow_succ, ← Nat.mul_assoc, Nat.mul_comm, tz_even hz, ih]; omega
theorem tz_spec : ∀ n : Nat, n ≠ 0 → ∃ m, n = m * 2 ^ tz n ∧ m % 2 = 1 := by
  intro n
  induction n using Nat.strongRecOn with
  | ind n ih =>
    intro h
    rcases Nat.mod_two_eq_zero_or_one n with q | q
    · obtain ⟨a, rfl⟩ : ∃ a, n = 2 * a := ⟨n / 2, by omega⟩
      have ha : a ≠ 0 := by omega
      obtain ⟨m, h1, h2⟩ := ih a (by omega) ha
      refine ⟨m, ?_, h2⟩
      rw [tz_even ha, Nat.pow_succ, ← Nat.mul_assoc, ← h1, Nat.mul_comm]
    · exact ⟨n, by rw [tz_odd q]; simp, q⟩
theorem tz_div (n : Nat) (h : n ≠ 0) : n = n / 2 ^ tz n * 2 ^ tz n ∧ n / 2 ^ tz n % 2 = 1 := by
  obtain ⟨m, h1, h2⟩ := tz_spec n h
  have e : n / 2 ^ tz n = m := by
    conv => lhs; lhs; rw [h1]
    exact Nat.mul_div_cancel _ (Nat.two_pow_pos _)
  rw [e]; exact ⟨h1, h2⟩

/-! ## bit operations -/
theorem land_pred_even (a : Nat) (h : a ≠ 0) : (2 * a) &&& (2 * a - 1) = 2 * (a &&& (a - 1)) := by
  have e : 2 * a - 1 = 2 * (a - 1) + 1 := by omega
  rw [e]
  apply Nat.eq_of_testBit_eq
  intro i
  cases i with
  | zero => simp [Nat.testBit_and]
  | succ i => 
    rw [Nat.testBit_and, Nat.testBit_succ, Nat.testBit_succ, Nat.testBit_succ]
    rw [show 2 * a / 2 = a by omega, show (2 * (a - 1) + 1) / 2 = a - 1 by omega, show 2 * (a &&& (a - 1)) / 2 = a &&& (a - 1) by omega, Nat.testBit_and]
theorem land_pred_odd (a : Nat) (h : a % 2 = 1) : a &&& (a - 1) = a - 1 := by
  obtain ⟨b, rfl⟩ : ∃ b, a = 2 * b + 1 := ⟨a / 2, by omega⟩
  rw [Nat.add_sub_cancel]
  apply Nat.eq_of_testBit_eq
  intro i
  cases i with
  | zero => simp [Nat.testBit_and]
  | succ i =>
    rw [Nat.testBit_and, Nat.testBit_succ, Nat.testBit_succ]
    rw [show (2 * b + 1) / 2 = b by omega, show 2 * b / 2 = b by omega, Bool.and_self]
theorem low_bit (n : Nat) (h : n ≠ 0) : n - (n &&& (n - 1)) = 2 ^ tz n ∧ (n &&& (n - 1)) ≤ n := by
  induction n using Nat.strongRecOn with
  | ind n ih =>
    rcases Nat.mod_two_eq_zero_or_one n with q | q
    · obtain ⟨a, rfl⟩ : ∃ a, n = 2 * a := ⟨n / 2, by omega⟩
      have ha : a ≠ 0 := by omega
      obtain ⟨h1, h2⟩ := ih a (by omega) ha
      rw [land_pred_even a ha, tz_even ha, Nat.pow_succ]
      omega
    · rw [land_pred_odd n q, tz_odd q]
      omega
theorem bitNot_neg (n : Nat) (h : n ≠ 0) : (Builtin.bitNot (-(n : Int))).toNat = n - 1 := by
  unfold Builtin.bitNot; omega
theorem bitAnd_neg (n : Nat) (h : n ≠ 0) : Builtin.bitAnd (n : Int) (-(n : Int)) = ((2 ^ tz n : Nat) : Int) := by
  unfold Builtin.bitAnd
  have h1 : decide ((0 : Int) ≤ n) = true := by simp
  have h2 : decide ((0 : Int) ≤ -(n : Int)) = false := by simp; omega
  rw [h1, h2]
  show (n : Int) - (((n : Int).toNat &&& (Builtin.bitNot (-(n : Int))).toNat : Nat) : Int) = _
  rw [bitNot_neg n h, Int.toNat_natCast]
  obtain ⟨a, b⟩ := low_bit n h
  omega
theorem trailing_eq (n : Nat) (h : n ≠ 0) : (Builtin.Int.intBits (Builtin.bitAnd (n : Int) (-(n : Int))) : Int) - 1 = (tz n : Int) := by
  rw [bitAnd_neg n h, intBits_nat, nb_eq (k := tz n) (Nat.le_refl _) (Nat.pow_lt_pow_right (by decide) (Nat.lt_succ_self _))]
  omega
theorem bitAnd_nat (a b : Nat) : Builtin.bitAnd (a : Int) (b : Int) = ((a &&& b : Nat) : Int) := by
  unfold Builtin.bitAnd
  have h1 : decide ((0 : Int) ≤ a) = true := by simp
  have h2 : decide ((0 : Int) ≤ b) = true := by simp
  rw [h1, h2]
  simp
theorem bitAnd_one (a : Nat) : Builtin.bitAnd (a : Int) 1 = ((a % 2 : Nat) : Int) := by
  rw [show (1 : Int) = ((1 : Nat) : Int) from rfl, bitAnd_nat, Nat.and_one_is_mod]
theorem bitAnd_mask (a k : Nat) : Builtin.bitAnd (a : Int) (1 * 2 ^ k - 1) = ((a % 2 ^ k : Nat) : Int) := by
  have : (1 * 2 ^ k - 1 : Int) = ((2 ^ k - 1 : Nat) : Int) := by
    have := Nat.two_pow_pos k
    rw [Int.one_mul, Int.ofNat_sub this]; simp
  rw [this, bitAnd_nat, Nat.and_two_pow_sub_one_eq_mod]
theorem bitAnd_two (a : Nat) : (Builtin.bitAnd (a : Int) 2 = 0) ↔ (a / 2 % 2 = 0) := by
  rw [show (2 : Int) = ((2 : Nat) : Int) from rfl, bitAnd_nat]
  have : a &&& 2 = 2 * (a / 2 % 2) := by
    apply Nat.eq_of_testBit_eq
    intro i
    match i with
    | 0 => simp [Nat.testBit_and]
    | 1 =>
      have h1 : (2 : Nat).testBit 1 = true := by decide
      rw [Nat.testBit_and, h1, Bool.and_true, Nat.testBit_succ, Nat.testBit_succ, Nat.testBit_zero, Nat.testBit_zero, show 2 * (a / 2 % 2) / 2 = a / 2 % 2 by omega]
      simp
    | j + 2 =>
      have h1 : (2 : Nat).testBit (j + 2) = false := by
        rw [Nat.testBit_succ, Nat.testBit_succ]; simp
      rw [Nat.testBit_and, h1, Bool.and_false, Nat.testBit_succ, Nat.testBit_succ, show 2 * (a / 2 % 2) / 2 / 2 = 0 by omega]
      simp
  rw [this]
  omega
theorem fdiv_pow (a k : Nat) : (a : Int).fdiv (2 ^ k) = ((a / 2 ^ k : Nat) : Int) := by
  rw [show ((2 : Int) ^ k) = ((2 ^ k : Nat) : Int) by simp]
  rw [Int.fdiv_eq_ediv_of_nonneg _ (Int.natCast_nonneg _)]
  rfl
end Mine

-- ---------- Plain2 ----------
set_option maxRecDepth 100000
set_option autoImplicit false
set_option linter.all false
namespace Mine
open PySem

/-! ## numbers as the program keeps them -/
def fz : PyData := .tuple [.int 0, .int 0, .int 0, .int 0]
def mk (sg : Int) (M : Nat) (e : Int) : PyData := .tuple [.int sg, .int (M : Int), .int e, .int (nb M : Int)]
/-- the normal form of ±M·2^e -/
def nrmN (sg : Int) (M : Nat) (e : Int) : PyData := if M = 0 then fz else mk sg (M / 2 ^ tz M) (e + tz M)
/-- the normal form of N·2^e -/
def nrm (N e : Int) : PyData := nrmN (if N < 0 then 1 else 0) N.natAbs e
def sgn (sg : Int) (M : Nat) : Int := if sg = 1 then -(M : Int) else M

def Mode (r : Str) : Prop := r = Str.ofString "n" ∨ r = Str.ofString "f" ∨ r = Str.ofString "c" ∨ r = Str.ofString "d" ∨ r = Str.ofString "u"

/-- is the magnitude cut (and not raised)? -/
def cuts (r : Str) (sg : Int) : Bool := r == Str.ofString "d" || (r == Str.ofString "f" && sg == 0) || (r == Str.ofString "c" && sg != 0)
/-- the magnitude M / 2^n, rounded -/
def rmag (r : Str) (sg : Int) (M n : Nat) : Nat :=
  if r = Str.ofString "n" then (if M / 2 ^ (n - 1) % 2 = 1 ∧ (M / 2 ^ (n - 1) / 2 % 2 = 1 ∨ M % 2 ^ (n - 1) ≠ 0) then M / 2 ^ (n - 1) / 2 + 1 else M / 2 ^ (n - 1) / 2)
  else if cuts r sg then M / 2 ^ n else (M + (2 ^ n - 1)) / 2 ^ n
def rnorm (r : Str) (sg : Int) (prec M : Nat) (e : Int) : PyData := if nb M ≤ prec then nrmN sg M e else nrmN sg (rmag r sg M (nb M - prec)) (e + ((nb M - prec : Nat) : Int))

theorem neg_fdiv_neg (M n : Nat) : -((-(M : Int)).fdiv (2 ^ n)) = (((M + (2 ^ n - 1)) / 2 ^ n : Nat) : Int) := by
  rw [show ((2 : Int) ^ n) = ((2 ^ n : Nat) : Int) by simp]
  rw [Int.fdiv_eq_ediv_of_nonneg _ (Int.natCast_nonneg _)]
  have hp : 0 < 2 ^ n := Nat.two_pow_pos n
  generalize hK : 2 ^ n = K at hp
  have h1 : (-(M : Int)) / (K : Int) = -(((M + (K - 1)) / K : Nat) : Int) := by
    have hd := Nat.div_add_mod (M + (K - 1)) K
    have hm := Nat.mod_lt (M + (K - 1)) hp
    generalize (M + (K - 1)) / K = q at hd ⊢
    generalize (M + (K - 1)) % K = t at hd hm
    have hKi : (0 : Int) < (K : Int) := by omega
    refine Int.le_antisymm ?_ ?_
    · refine Int.le_of_lt_add_one (Int.ediv_lt_of_lt_mul hKi ?_)
      have : ((K * q + t : Nat) : Int) = ((M + (K - 1) : Nat) : Int) := by rw [hd]
      rw [Int.add_mul, Int.neg_mul]
      have e2 : (q : Int) * (K : Int) = (K * q : Nat) := by rw [Int.mul_comm]; simp
      rw [e2]
      omega
    · refine (Int.le_ediv_iff_mul_le hKi).mpr ?_
      rw [Int.neg_mul]
      have e2 : (q : Int) * (K : Int) = (K * q : Nat) := by rw [Int.mul_comm]; simp
      rw [e2]
      omega
  rw [h1]; omega

theorem nb_rmag_carry {r : Str} {sg : Int} {M prec : Nat} (hp : 1 ≤ prec) (h : prec < nb M) : 2 ^ (prec - 1) ≤ rmag r sg M (nb M - prec) ∧ rmag r sg M (nb M - prec) ≤ 2 ^ prec := by
  have h0 : M ≠ 0 := fun q => by subst q; rw [nb_zero] at h; omega
  have h1 := nb_ge h0
  have h2 := nb_lt M
  generalize hn : nb M - prec = n
  have hn1 : 1 ≤ n := by omega
  have a1 : 2 ^ (prec - 1) ≤ M / 2 ^ n := by
    refine (Nat.le_div_iff_mul_le (Nat.two_pow_pos n)).mpr ?_
    rw [← Nat.pow_add, show prec - 1 + n = nb M - 1 by omega]; exact h1
  have a2 : M / 2 ^ n < 2 ^ prec := by
    refine (Nat.div_lt_iff_lt_mul (Nat.two_pow_pos n)).mpr ?_
    rw [← Nat.pow_add, show prec + n = nb M by omega]; exact h2
  have e1 : M / 2 ^ (n - 1) / 2 = M / 2 ^ n := by
    rw [Nat.div_div_eq_div_mul, ← Nat.pow_succ, show (n - 1).succ = n by omega]
  unfold rmag
  rw [e1]
  split
  · split <;> omega
  · split
    · omega
    · have hp2 : 0 < 2 ^ n := Nat.two_pow_pos n
      have b1 : M / 2 ^ n ≤ (M + (2 ^ n - 1)) / 2 ^ n := Nat.div_le_div_right (by omega)
      have b2 : (M + (2 ^ n - 1)) / 2 ^ n ≤ M / 2 ^ n + 1 := by
        rw [← Nat.add_div_right _ hp2]
        exact Nat.div_le_div_right (by omega)
      omega

/-- what _normalize hands back, from the rounded magnitude -/
theorem fin_mk {sg : Int} {T : Nat} {e : Int} (h : T ≠ 0) (bc : Int) (hb : T = 2 ^ tz T ∨ bc = (nb T : Int)) :
    nrmN sg T e = .tuple [.int sg, .int ((T / 2 ^ tz T : Nat) : Int), .int (e + tz T), .int (if ((T / 2 ^ tz T : Nat) : Int) = 1 then 1 else bc - tz T)] := by
  unfold nrmN mk
  rw [if_neg h]
  obtain ⟨h1, h2⟩ := tz_div T h
  have hnb1 : nb 1 = 1 := by decide
  congr 5
  by_cases q : T / 2 ^ tz T = 1
  · rw [q, hnb1]; rfl
  · have q' : ¬ (((T / 2 ^ tz T : Nat) : Int) = 1) := by omega
    rw [if_neg q']
    rcases hb with hb | hb
    · exfalso; apply q; conv => lhs; lhs; rw [hb]
      exact Nat.div_self (Nat.two_pow_pos _)
    · rw [hb, nb_shr]
      have h3 : 2 ^ tz T ≤ T := Nat.le_trans (Nat.le_mul_of_pos_left _ (Nat.pos_of_ne_zero fun z => by rw [z] at h2; simp at h2)) (Nat.le_of_eq h1.symm)
      have h4 := le_nb h3
      clear h1 h2 h3
      congr 1
      omega
end Mine
namespace Mine
open PySem
theorem mid {r : Str} {sg e : Int} {prec M : Nat} (hlt : prec < nb M) (hp : 1 ≤ prec) {T : Nat} {E : Int} (hT : T = rmag r sg M (nb M - prec)) (hE : E = e + ((nb M - prec : Nat) : Int)) :
    T ≠ 0 ∧ (T = 2 ^ tz T ∨ (prec : Int) = nb T) ∧ rnorm r sg prec M e = nrmN sg T E := by
  obtain ⟨h1, h2⟩ := nb_rmag_carry (r := r) (sg := sg) hp hlt
  rw [← hT] at h1 h2
  have hpos := Nat.two_pow_pos (prec - 1)
  refine ⟨by omega, ?_, ?_⟩
  · rcases Nat.lt_or_ge T (2 ^ prec) with q | q
    · right
      rw [nb_eq h1 (by rw [Nat.sub_add_cancel hp]; exact q)]
      omega
    · left
      have e1 : T = 1 * 2 ^ prec := by omega
      rw [e1, tz_pow prec (by decide), tz_odd (by decide)]; simp
  · unfold rnorm
    rw [if_neg (by omega), ← hT, hE]
theorem rnorm_small {r : Str} {sg e : Int} {prec M : Nat} (h : nb M ≤ prec) : rnorm r sg prec M e = nrmN sg M e := by
  unfold rnorm; rw [if_pos h]
theorem rmag_n {sg : Int} {M k : Nat} : rmag (Str.ofString "n") sg M (k + 1) = (if M / 2 ^ k % 2 = 1 ∧ (M / 2 ^ k / 2 % 2 = 1 ∨ M % 2 ^ k ≠ 0) then M / 2 ^ k / 2 + 1 else M / 2 ^ k / 2) := by
  unfold rmag; rw [if_pos rfl, Nat.add_sub_cancel]
theorem rmag_cut {r : Str} {sg : Int} {M n : Nat} (h1 : r ≠ Str.ofString "n") (h2 : cuts r sg = true) : rmag r sg M n = M / 2 ^ n := by
  unfold rmag; rw [if_neg h1, if_pos h2]
theorem rmag_up {r : Str} {sg : Int} {M n : Nat} (h1 : r ≠ Str.ofString "n") (h2 : cuts r sg = false) : rmag r sg M n = (M + (2 ^ n - 1)) / 2 ^ n := by
  unfold rmag; rw [if_neg h1, if_neg (by rw [h2]; decide)]
end Mine
namespace Mine
open PySem
theorem tz_lt_nb {M : Nat} (h : M ≠ 0) : tz M + 1 ≤ nb M := by
  obtain ⟨h1, h2⟩ := tz_div M h
  have h3 : 2 ^ tz M ≤ M := Nat.le_trans (Nat.le_mul_of_pos_left _ (Nat.pos_of_ne_zero fun z => by rw [z] at h2; simp at h2)) (Nat.le_of_eq h1.symm)
  exact le_nb h3
theorem nrmN_zero {sg e : Int} : nrmN sg 0 e = fz := by unfold nrmN; rw [if_pos rfl]
theorem nrmN_tup {sg e : Int} {M : Nat} (h : M ≠ 0) : nrmN sg M e = .tuple [.int sg, .int ((M / 2 ^ tz M : Nat) : Int), .int (e + tz M), .int ((nb M : Int) - tz M)] := by
  unfold nrmN mk
  rw [if_neg h, nb_shr]
  have := tz_lt_nb h
  congr 5
  congr 1
  omega
theorem nrm_neg {N e : Int} (h : N < 0) : nrm N e = nrmN 1 N.natAbs e := by unfold nrm; rw [if_pos h]
theorem nrm_nn {N e : Int} (h : ¬ N < 0) : nrm N e = nrmN 0 N.natAbs e := by unfold nrm; rw [if_neg h]
theorem tz_two {M : Nat} (h0 : M % 2 = 0) (h1 : M / 2 % 2 ≠ 0) : tz M = 1 := by
  obtain ⟨a, rfl⟩ : ∃ a, M = 2 * a := ⟨M / 2, by omega⟩
  rw [tz_even (by omega), tz_odd (by omega)]
end Mine
namespace Mine
open PySem
theorem mk_odd {sg : Int} {M : Nat} {e : Int} (h : M % 2 = 1) : nrmN sg M e = mk sg M e := by
  unfold nrmN; rw [if_neg (by omega), tz_odd h]; simp
theorem nrmN_scale {sg : Int} {M k : Nat} {e : Int} : nrmN sg (M * 2 ^ k) e = nrmN sg M (e + k) := by
  by_cases h : M = 0
  · subst h; rw [Nat.zero_mul, nrmN_zero, nrmN_zero]
  · have h' : M * 2 ^ k ≠ 0 := Nat.mul_ne_zero h (Nat.ne_of_gt (Nat.two_pow_pos k))
    unfold nrmN
    rw [if_neg h, if_neg h', tz_pow k h]
    have e1 : M * 2 ^ k / 2 ^ (tz M + k) = M / 2 ^ tz M := by
      rw [Nat.pow_add]; exact Nat.mul_div_mul_right _ _ (Nat.two_pow_pos k)
    rw [e1]
    congr 1
    push_cast; omega
theorem natAbs_mul_pow (N : Int) (k : Nat) : (N * 2 ^ k).natAbs = N.natAbs * 2 ^ k := by
  rw [Int.natAbs_mul, Int.natAbs_pow]; rfl
theorem two_pow_pos_int (k : Nat) : (0 : Int) < 2 ^ k := by
  have := Nat.two_pow_pos k
  have e : ((2 : Int) ^ k) = ((2 ^ k : Nat) : Int) := by simp
  omega
theorem mul_pow_neg {N : Int} {k : Nat} : (N * 2 ^ k < 0) ↔ N < 0 := by
  have hp := two_pow_pos_int k
  constructor
  · intro h
    by_cases q : N < 0
    · exact q
    · exact absurd (Int.mul_nonneg (by omega : 0 ≤ N) (Int.le_of_lt hp)) (by omega)
  · intro h; exact Int.mul_neg_of_neg_of_pos h hp
theorem nrm_scale {N e : Int} {k : Nat} : nrm (N * 2 ^ k) e = nrm N (e + k) := by
  unfold nrm
  rw [natAbs_mul_pow, nrmN_scale]
  by_cases h : N < 0
  · rw [if_pos h, if_pos (mul_pow_neg.mpr h)]
  · rw [if_neg h, if_neg (fun q => h (mul_pow_neg.mp q))]
theorem nrm_sgn {sg : Int} {M : Nat} {e : Int} (hs : sg = 0 ∨ sg = 1) : nrm (sgn sg M) e = nrmN sg M e := by
  by_cases hM : M = 0
  · subst hM; unfold sgn nrm; rw [nrmN_zero]; split <;> simp [nrmN]
  · rcases hs with rfl | rfl
    · rw [show sgn 0 M = M from by unfold sgn; simp, nrm_nn (by omega), Int.natAbs_natCast]
    · rw [show sgn 1 M = -(M : Int) from by unfold sgn; simp, nrm_neg (by omega)]; simp
theorem nrm_zero {e : Int} : nrm 0 e = fz := by rw [nrm_nn (by omega)]; exact nrmN_zero
/-- a number is zero, or a sign, an odd magnitude and a place -/
theorem nrm_cases (N e : Int) : (N = 0 ∧ nrm N e = fz) ∨ (N ≠ 0 ∧ ∃ (sg : Int) (M z : Nat), (sg = 0 ∨ sg = 1) ∧ M % 2 = 1 ∧ N = sgn sg (M * 2 ^ z) ∧ nrm N e = mk sg M (e + z)) := by
  by_cases h : N = 0
  · exact .inl ⟨h, by subst h; exact nrm_zero⟩
  · refine .inr ⟨h, (if N < 0 then 1 else 0), N.natAbs / 2 ^ tz N.natAbs, tz N.natAbs, by split <;> simp, (tz_div _ (by omega)).2, ?_, ?_⟩
    · rw [← (tz_div N.natAbs (by omega)).1]
      unfold sgn; split <;> simp <;> omega
    · unfold nrm nrmN; rw [if_neg (by omega)]
end Mine
namespace Mine
open PySem
theorem sgn_natAbs {sg : Int} {M : Nat} : (sgn sg M).natAbs = M := by unfold sgn; split <;> simp
theorem sgn_mul {sg : Int} {M k : Nat} : sgn sg M * 2 ^ k = sgn sg (M * 2 ^ k) := by
  unfold sgn; split
  · push_cast; rw [Int.neg_mul]
  · push_cast; rfl
theorem sgn_zero {M : Nat} : sgn 0 M = M := by unfold sgn; simp
theorem sgn_one {M : Nat} : sgn 1 M = -(M : Int) := by unfold sgn; simp
theorem sgn_odd {sg : Int} {M : Nat} (h : M % 2 = 1) : sgn sg M % 2 = 1 := by unfold sgn; split <;> omega
theorem intBits_pow (k : Nat) : Builtin.Int.intBits (1 * 2 ^ k) = k + 1 := by
  have e : (1 * 2 ^ k : Int) = ((2 ^ k : Nat) : Int) := by rw [Int.one_mul]; simp
  rw [e, intBits_nat, nb_eq (Nat.le_refl _) (Nat.pow_lt_pow_right (by decide) (Nat.lt_succ_self _))]
theorem intBits_one : Builtin.Int.intBits 1 = 1 := by decide
end Mine
namespace Mine
open PySem
theorem nb_mul_formula {M n : Nat} (hM : M ≠ 0) (hn : n ≠ 0) : (nb M + (nb n - 1)) + M * n / 2 ^ (nb M + (nb n - 1)) = nb (M * n) := by
  have h1 := nb_ge hM; have h2 := nb_lt M; have h3 := nb_ge hn; have h4 := nb_lt n
  have p1 := nb_pos' hM; have p2 := nb_pos' hn
  have lo : 2 ^ (nb M - 1 + (nb n - 1)) ≤ M * n := by rw [Nat.pow_add]; exact Nat.mul_le_mul h1 h3
  have hi : M * n < 2 ^ (nb M + nb n) := by rw [Nat.pow_add]; exact Nat.mul_lt_mul'' h2 h4
  generalize hk : nb M + (nb n - 1) = k
  have hk1 : nb M - 1 + (nb n - 1) = k - 1 := by omega
  have hk2 : nb M + nb n = k + 1 := by omega
  have hkp : 1 ≤ k := by omega
  rw [hk1] at lo; rw [hk2] at hi
  rcases Nat.lt_or_ge (M * n) (2 ^ k) with q | q
  · rw [Nat.div_eq_of_lt q, nb_eq lo (by rw [Nat.sub_add_cancel hkp]; exact q)]; omega
  · have : M * n / 2 ^ k = 1 := by
      refine Nat.div_eq_of_lt_le (by omega) ?_
      rw [Nat.pow_succ] at hi; omega
    rw [this, nb_eq q hi]
theorem natAbs_sub_nb {N M : Int} {k : Nat} (h1 : nb N.natAbs ≤ k) (h2 : nb M.natAbs ≤ k) : nb (N - M).natAbs ≤ k + 1 := by
  have a := Nat.lt_of_lt_of_le (nb_lt N.natAbs) (Nat.pow_le_pow_right (by decide) h1)
  have b := Nat.lt_of_lt_of_le (nb_lt M.natAbs) (Nat.pow_le_pow_right (by decide) h2)
  refine nb_le ?_
  rw [Nat.pow_succ]
  omega
/-- the last step of a rounding: some number with a sign -/
theorem rnorm_mk {r : Str} {sg e : Int} {prec M : Nat} (hM : M ≠ 0) (hp : 1 ≤ prec) : ∃ M' e', M' ≠ 0 ∧ rnorm r sg prec M e = mk sg M' e' := by
  by_cases h : nb M ≤ prec
  · rw [rnorm_small h]
    obtain ⟨h1, h2⟩ := tz_div M hM
    exact ⟨M / 2 ^ tz M, e + tz M, fun q => by rw [q] at h2; simp at h2, by unfold nrmN; rw [if_neg hM]⟩
  · have hlt : prec < nb M := by omega
    obtain ⟨a, _, c⟩ := mid (r := r) (sg := sg) (e := e) hlt hp rfl rfl
    rw [c]
    obtain ⟨h1, h2⟩ := tz_div _ a
    unfold nrmN; rw [if_neg a]
    refine ⟨_, _, ?_, rfl⟩
    intro q; rw [q] at h2; simp at h2
theorem sgn_abs_le {m k : Nat} {d : Int} (h : (m : Int) * 2 ^ k = d ∨ -((m : Int) * 2 ^ k) = d) : m * 2 ^ k = d.natAbs := by
  have e : ((m * 2 ^ k : Nat) : Int) = (m : Int) * 2 ^ k := by push_cast; rfl
  rw [← e] at h
  omega
end Mine

-- ---------- Plain3 ----------
set_option maxRecDepth 100000
set_option autoImplicit false
set_option linter.all false
namespace Mine
open PySem

/-- the fraction A / B, rounded to a whole number -/
def rfrac (r : Str) (sg : Int) (A B : Nat) : Nat :=
  if r = Str.ofString "n" then (if B < 2 * (A % B) ∨ (2 * (A % B) = B ∧ A / B % 2 = 1) then A / B + 1 else A / B)
  else if cuts r sg then A / B else if A % B = 0 then A / B else A / B + 1

theorem ceil_eq {A B : Nat} (hB : 0 < B) : (A + (B - 1)) / B = if A % B = 0 then A / B else A / B + 1 := by
  have h := Nat.div_add_mod A B
  have hm := Nat.mod_lt A hB
  generalize A / B = q at *
  generalize A % B = m at *
  subst h
  split
  · rename_i h0; subst h0
    rw [Nat.add_zero, Nat.mul_add_div hB, Nat.div_eq_of_lt (by omega), Nat.add_zero]
  · rw [Nat.add_assoc, Nat.mul_add_div hB]
    congr 1
    refine Nat.div_eq_of_lt_le (by omega) (by omega)

theorem rmag_rfrac {r : Str} {sg : Int} {M n : Nat} (hn : 1 ≤ n) : rmag r sg M n = rfrac r sg M (2 ^ n) := by
  unfold rmag rfrac
  have hp : 0 < 2 ^ n := Nat.two_pow_pos n
  split
  · obtain ⟨k, rfl⟩ : ∃ k, n = k + 1 := ⟨n - 1, by omega⟩
    rw [Nat.add_sub_cancel]
    have hk := Nat.two_pow_pos k
    have e1 : M / 2 ^ (k + 1) = M / 2 ^ k / 2 := by rw [Nat.div_div_eq_div_mul, Nat.pow_succ]
    have e2 : M % 2 ^ (k + 1) = M % 2 ^ k + 2 ^ k * (M / 2 ^ k % 2) := by rw [Nat.pow_succ, Nat.mod_mul]
    have hm := Nat.mod_lt M hk
    rw [e1, e2, Nat.pow_succ]
    generalize M % 2 ^ k = m at *
    generalize M / 2 ^ k = t at *
    generalize 2 ^ k = K at *
    rcases Nat.mod_two_eq_zero_or_one t with q | q
    · rw [q, Nat.mul_zero, Nat.add_zero]
      rw [if_neg (by omega), if_neg (by omega)]
    · rw [q, Nat.mul_one]
      by_cases c : m = 0
      · subst c
        by_cases c2 : t / 2 % 2 = 1
        · rw [if_pos (by omega), if_pos (by omega)]
        · rw [if_neg (by omega), if_neg (by omega)]
      · rw [if_pos (by omega), if_pos (by omega)]
  · split
    · rfl
    · exact ceil_eq hp

theorem rfrac_scale {r : Str} {sg : Int} {A B c : Nat} (hc : 0 < c) : rfrac r sg (A * c) (B * c) = rfrac r sg A B := by
  unfold rfrac
  have e1 : A * c / (B * c) = A / B := Nat.mul_div_mul_right _ _ hc
  have e2 : A * c % (B * c) = A % B * c := Nat.mul_mod_mul_right ..
  rw [e1, e2]
  have e3 : (B * c < 2 * (A % B * c)) ↔ B < 2 * (A % B) := by
    rw [← Nat.mul_assoc]; exact Nat.mul_lt_mul_right hc
  have e4 : (2 * (A % B * c) = B * c) ↔ 2 * (A % B) = B := by
    rw [← Nat.mul_assoc]; exact Nat.mul_right_cancel_iff hc
  have e5 : (A % B * c = 0) ↔ A % B = 0 := by
    rw [Nat.mul_eq_zero]; omega
  simp only [e3, e4, e5]
theorem rfrac_congr {r : Str} {sg : Int} {A B A' B' : Nat} (hB : 0 < B) (hB' : 0 < B') (h : A * B' = A' * B) : rfrac r sg A B = rfrac r sg A' B' := by
  rw [← rfrac_scale (A := A) (B := B) hB', ← rfrac_scale (A := A') (B := B') hB, h, Nat.mul_comm B B']
theorem rfrac_exact {r : Str} {sg : Int} {C D : Nat} (hD : 0 < D) : rfrac r sg (C * D) D = C := by
  unfold rfrac
  have e1 : C * D / D = C := Nat.mul_div_cancel _ hD
  have e2 : C * D % D = 0 := Nat.mul_mod_left ..
  rw [e1, e2]
  simp
  omega
theorem rfrac_sticky {r : Str} {sg : Int} {A B n : Nat} (hB : 0 < B) (hm : A % B ≠ 0) (hn : 2 ≤ n) : rfrac r sg (2 * (A / B) + 1) (2 ^ n) = rfrac r sg A (B * 2 ^ (n - 1)) := by
  obtain ⟨k, rfl⟩ : ∃ k, n = k + 2 := ⟨n - 2, by omega⟩
  rw [show k + 2 - 1 = k + 1 from rfl]
  have hk := Nat.two_pow_pos k
  have hml := Nat.mod_lt A hB
  have eK : 2 ^ (k + 1) = 2 * 2 ^ k := by rw [Nat.pow_succ]; omega
  have eK2 : 2 ^ (k + 2) = 2 * (2 * 2 ^ k) := by rw [Nat.pow_succ, eK]; omega
  unfold rfrac
  have d1 : (2 * (A / B) + 1) / 2 ^ (k + 2) = A / B / (2 * 2 ^ k) := by
    rw [eK2, ← Nat.div_div_eq_div_mul]; congr 1; omega
  have d2 : A / (B * 2 ^ (k + 1)) = A / B / (2 * 2 ^ k) := by rw [eK, Nat.div_div_eq_div_mul]
  have m1 : (2 * (A / B) + 1) % 2 ^ (k + 2) = 2 * (A / B % (2 * 2 ^ k)) + 1 := by
    rw [eK2, Nat.mod_mul]
    have a : (2 * (A / B) + 1) % 2 = 1 := by omega
    have b : (2 * (A / B) + 1) / 2 = A / B := by omega
    rw [a, b]; omega
  have m2 : A % (B * 2 ^ (k + 1)) = A % B + B * (A / B % (2 * 2 ^ k)) := by rw [eK, Nat.mod_mul]
  rw [d1, d2, m1, m2, eK, eK2]
  generalize A / B / (2 * 2 ^ k) = t
  have hj := Nat.mod_lt (A / B) (show 0 < 2 * 2 ^ k by omega)
  generalize A / B % (2 * 2 ^ k) = j at *
  generalize A % B = m at *
  generalize 2 ^ k = K at *
  have hne : ¬ (m + B * j = 0) := by omega
  have hne' : ¬ (2 * j + 1 = 0) := by omega
  rw [if_neg hne, if_neg hne']
  rcases Nat.lt_or_ge j K with q | q
  · have h1 : B * (j + 1) ≤ B * K := Nat.mul_le_mul_left _ q
    have h2 : B * (j + 1) = B * j + B := by rw [Nat.mul_add, Nat.mul_one]
    have h3 : B * (2 * K) = 2 * (B * K) := by rw [Nat.mul_left_comm]
    have c1 : ¬ (2 * (2 * K) < 2 * (2 * j + 1) ∨ 2 * (2 * j + 1) = 2 * (2 * K) ∧ t % 2 = 1) := by omega
    have c2 : ¬ (B * (2 * K) < 2 * (m + B * j) ∨ 2 * (m + B * j) = B * (2 * K) ∧ t % 2 = 1) := by omega
    rw [if_neg c1, if_neg c2]
  · have h1 : B * K ≤ B * j := Nat.mul_le_mul_left _ q
    have h3 : B * (2 * K) = 2 * (B * K) := by rw [Nat.mul_left_comm]
    have c1 : (2 * (2 * K) < 2 * (2 * j + 1) ∨ 2 * (2 * j + 1) = 2 * (2 * K) ∧ t % 2 = 1) := by omega
    have c2 : (B * (2 * K) < 2 * (m + B * j) ∨ 2 * (m + B * j) = B * (2 * K) ∧ t % 2 = 1) := by omega
    rw [if_pos c1, if_pos c2]

/-- x is the fraction ±A / B, rounded to prec binary digits -/
def IsFR (r : Str) (prec : Nat) (sg : Int) (A B : Nat) (x : PyData) : Prop := ∃ u v : Nat, u ≤ 5000 ∧ v ≤ 5000 ∧ 2 ^ (prec - 1) * (B * 2 ^ v) ≤ A * 2 ^ u ∧ A * 2 ^ u < 2 ^ prec * (B * 2 ^ v) ∧
  x = nrmN sg (rfrac r sg (A * 2 ^ u) (B * 2 ^ v)) ((v : Int) - u)
def FRx (r : Str) (prec : Nat) (p : Int) (q : Nat) (x : PyData) : Prop := (p = 0 ∧ x = fz) ∨ (p ≠ 0 ∧ IsFR r prec (if p < 0 then 1 else 0) p.natAbs q x)

theorem IsFR.le {r : Str} {prec : Nat} {sg : Int} {A B A' B' u v u' v' : Nat} (hp : 1 ≤ prec) (hB : 0 < B) (hB' : 0 < B') (h : A * B' = A' * B)
    (h2 : A * 2 ^ u < 2 ^ prec * (B * 2 ^ v)) (h1' : 2 ^ (prec - 1) * (B' * 2 ^ v') ≤ A' * 2 ^ u') : v' + u ≤ v + u' := by
  rcases Nat.lt_or_ge (v + u') (v' + u) with q | q
  · exfalso
    have a := Nat.mul_lt_mul_of_pos_right h2 (Nat.mul_pos hB' (Nat.two_pow_pos u'))
    have b := Nat.mul_le_mul_right (B * 2 ^ u) h1'
    have e1 : A * 2 ^ u * (B' * 2 ^ u') = A' * 2 ^ u' * (B * 2 ^ u) := by
      calc A * 2 ^ u * (B' * 2 ^ u') = (A * B') * (2 ^ u * 2 ^ u') := by simp only [Nat.mul_assoc, Nat.mul_comm, Nat.mul_left_comm]
        _ = (A' * B) * (2 ^ u * 2 ^ u') := by rw [h]
        _ = A' * 2 ^ u' * (B * 2 ^ u) := by simp only [Nat.mul_assoc, Nat.mul_comm, Nat.mul_left_comm]
    have e2 : 2 ^ prec * (B * 2 ^ v) * (B' * 2 ^ u') = B * B' * 2 ^ (prec + (v + u')) := by
      rw [Nat.pow_add, Nat.pow_add]; simp only [Nat.mul_assoc, Nat.mul_comm, Nat.mul_left_comm]
    have e3 : 2 ^ (prec - 1) * (B' * 2 ^ v') * (B * 2 ^ u) = B * B' * 2 ^ (prec - 1 + (v' + u)) := by
      rw [Nat.pow_add, Nat.pow_add]; simp only [Nat.mul_assoc, Nat.mul_comm, Nat.mul_left_comm]
    rw [e1, e2] at a
    rw [e3] at b
    have c : B * B' * 2 ^ (prec + (v + u')) ≤ B * B' * 2 ^ (prec - 1 + (v' + u)) := Nat.mul_le_mul_left _ (Nat.pow_le_pow_right (by decide) (by omega))
    omega
  · exact q
theorem IsFR.unique {r : Str} {prec : Nat} {sg : Int} {A B A' B' : Nat} {x x' : PyData} (hp : 1 ≤ prec) (hB : 0 < B) (hB' : 0 < B') (h : A * B' = A' * B) (a : IsFR r prec sg A B x) (b : IsFR r prec sg A' B' x') : x = x' := by
  obtain ⟨u, v, _, _, h1, h2, rfl⟩ := a
  obtain ⟨u', v', _, _, h1', h2', rfl⟩ := b
  have c1 := IsFR.le (r := r) (sg := sg) hp hB hB' h h2 h1'
  have c2 := IsFR.le (r := r) (sg := sg) hp hB' hB h.symm h2' h1
  have e : (v : Int) - u = (v' : Int) - u' := by omega
  rw [e]
  congr 1
  refine rfrac_congr (Nat.mul_pos hB (Nat.two_pow_pos _)) (Nat.mul_pos hB' (Nat.two_pow_pos _)) ?_
  have e2 : u + v' = u' + v := by omega
  calc A * 2 ^ u * (B' * 2 ^ v') = (A * B') * 2 ^ (u + v') := by rw [Nat.pow_add]; simp only [Nat.mul_assoc, Nat.mul_comm, Nat.mul_left_comm]
    _ = (A' * B) * 2 ^ (u' + v) := by rw [h, e2]
    _ = A' * 2 ^ u' * (B * 2 ^ v) := by rw [Nat.pow_add]; simp only [Nat.mul_assoc, Nat.mul_comm, Nat.mul_left_comm]
end Mine
namespace Mine
open PySem
/-- the quotient as mpf_div takes it -/
theorem fr_quot {r : Str} {prec : Nat} {sg : Int} {m1 m2 z1 z2 X Q Y : Nat} (hp : 1 ≤ prec) (h1 : m1 ≠ 0) (h2 : m2 ≠ 0) (hX : prec + nb m2 + 5 ≤ nb m1 + X) (bX : X ≤ 2000) (b1 : nb m1 + z1 ≤ 500) (b2 : nb m2 + z2 ≤ 500)
    (hQ : (m1 * 2 ^ X % m2 = 0 ∧ Q = m1 * 2 ^ X / m2 ∧ Y = X) ∨ (m1 * 2 ^ X % m2 ≠ 0 ∧ Q = 2 * (m1 * 2 ^ X / m2) + 1 ∧ Y = X + 1)) :
    IsFR r prec sg (m1 * 2 ^ z1) (m2 * 2 ^ z2) (rnorm r sg prec Q ((z1 : Int) - z2 - Y)) ∧ nb Q ≤ 3000 := by
  have l1 := nb_ge h1
  have u1 := nb_lt m1
  have u2 := nb_lt m2
  have p1 := nb_pos' h1
  have hm2 : 0 < m2 := Nat.pos_of_ne_zero h2
  generalize hq : m1 * 2 ^ X / m2 = q at *
  have hdm := Nat.div_add_mod (m1 * 2 ^ X) m2
  rw [hq] at hdm
  have hml := Nat.mod_lt (m1 * 2 ^ X) hm2
  have hqlo : 2 ^ (prec + 4) ≤ q := by
    rw [← hq]
    refine (Nat.le_div_iff_mul_le hm2).mpr ?_
    have : 2 ^ (prec + 4) * m2 ≤ 2 ^ (prec + 4) * 2 ^ nb m2 := Nat.mul_le_mul_left _ (Nat.le_of_lt u2)
    rw [← Nat.pow_add] at this
    refine Nat.le_trans this (Nat.le_trans (Nat.pow_le_pow_right (by decide) (show prec + 4 + nb m2 ≤ nb m1 - 1 + X by omega)) ?_)
    rw [Nat.pow_add]; exact Nat.mul_le_mul_right _ l1
  have hq0 : q ≠ 0 := by have := Nat.two_pow_pos (prec + 4); omega
  have hc := le_nb hqlo
  have qlo := nb_ge hq0
  have qhi := nb_lt q
  have hqb : nb q ≤ nb m1 + X := by
    rw [← nb_shl X h1]
    exact nb_mono (by rw [← hq]; exact Nat.div_le_self _ _)
  have hzz : 0 < 2 ^ (z1 + z2) := Nat.two_pow_pos _
  rcases hQ with ⟨hr, hQe, rfl⟩ | ⟨hr, rfl, rfl⟩
  · rw [hQe]; refine ⟨?_, by omega⟩
    rw [hr, Nat.add_zero] at hdm
    generalize hc' : nb q - prec = n
    have hn : 1 ≤ n := by omega
    have hcn : nb q = prec + n := by omega
    refine ⟨Y + z2, n + z1, by omega, by omega, ?_, ?_, ?_⟩
    · have e1 : m1 * 2 ^ z1 * 2 ^ (Y + z2) = q * (m2 * 2 ^ (z1 + z2)) := by
        rw [Nat.pow_add, Nat.pow_add]
        calc m1 * 2 ^ z1 * (2 ^ Y * 2 ^ z2) = (m1 * 2 ^ Y) * (2 ^ z1 * 2 ^ z2) := by simp only [Nat.mul_assoc, Nat.mul_comm, Nat.mul_left_comm]
          _ = (m2 * q) * (2 ^ z1 * 2 ^ z2) := by rw [hdm]
          _ = q * (m2 * (2 ^ z1 * 2 ^ z2)) := by simp only [Nat.mul_assoc, Nat.mul_comm, Nat.mul_left_comm]
      have e2 : 2 ^ (prec - 1) * (m2 * 2 ^ z2 * 2 ^ (n + z1)) = 2 ^ (prec - 1 + n) * (m2 * 2 ^ (z1 + z2)) := by
        rw [Nat.pow_add, Nat.pow_add, Nat.pow_add]; simp only [Nat.mul_assoc, Nat.mul_comm, Nat.mul_left_comm]
      rw [e1, e2, show prec - 1 + n = nb q - 1 by omega]
      exact Nat.mul_le_mul_right _ qlo
    · have e1 : m1 * 2 ^ z1 * 2 ^ (Y + z2) = q * (m2 * 2 ^ (z1 + z2)) := by
        rw [Nat.pow_add, Nat.pow_add]
        calc m1 * 2 ^ z1 * (2 ^ Y * 2 ^ z2) = (m1 * 2 ^ Y) * (2 ^ z1 * 2 ^ z2) := by simp only [Nat.mul_assoc, Nat.mul_comm, Nat.mul_left_comm]
          _ = (m2 * q) * (2 ^ z1 * 2 ^ z2) := by rw [hdm]
          _ = q * (m2 * (2 ^ z1 * 2 ^ z2)) := by simp only [Nat.mul_assoc, Nat.mul_comm, Nat.mul_left_comm]
      have e2 : 2 ^ prec * (m2 * 2 ^ z2 * 2 ^ (n + z1)) = 2 ^ (prec + n) * (m2 * 2 ^ (z1 + z2)) := by
        rw [Nat.pow_add, Nat.pow_add, Nat.pow_add]; simp only [Nat.mul_assoc, Nat.mul_comm, Nat.mul_left_comm]
      rw [e1, e2, ← hcn]
      exact Nat.mul_lt_mul_of_pos_right qhi (Nat.mul_pos hm2 hzz)
    · unfold rnorm
      rw [if_neg (by omega), hc', rmag_rfrac hn]
      have e : rfrac r sg q (2 ^ n) = rfrac r sg (m1 * 2 ^ z1 * 2 ^ (Y + z2)) (m2 * 2 ^ z2 * 2 ^ (n + z1)) := by
        refine rfrac_congr (Nat.two_pow_pos n) (Nat.mul_pos (Nat.mul_pos hm2 (Nat.two_pow_pos _)) (Nat.two_pow_pos _)) ?_
        calc q * (m2 * 2 ^ z2 * 2 ^ (n + z1)) = (m2 * q) * (2 ^ z2 * 2 ^ z1 * 2 ^ n) := by rw [Nat.pow_add]; simp only [Nat.mul_assoc, Nat.mul_comm, Nat.mul_left_comm]
          _ = (m1 * 2 ^ Y) * (2 ^ z2 * 2 ^ z1 * 2 ^ n) := by rw [hdm]
          _ = m1 * 2 ^ z1 * 2 ^ (Y + z2) * 2 ^ n := by rw [Nat.pow_add]; simp only [Nat.mul_assoc, Nat.mul_comm, Nat.mul_left_comm]
      rw [e]; congr 1; push_cast; omega
  · have hnbQ : nb (2 * q + 1) = nb q + 1 := by
      refine nb_eq ?_ ?_
      · have : 2 ^ nb q = 2 * 2 ^ (nb q - 1) := by rw [← Nat.pow_succ', Nat.succ_eq_add_one, Nat.sub_add_cancel (nb_pos' hq0)]
        omega
      · rw [Nat.pow_succ]; omega
    refine ⟨?_, by omega⟩
    generalize hc' : nb (2 * q + 1) - prec = n
    have hn : 2 ≤ n := by omega
    obtain ⟨k, rfl⟩ : ∃ k, n = k + 1 := ⟨n - 1, by omega⟩
    have hck : nb q = prec + k := by omega
    refine ⟨X + z2, k + z1, by omega, by omega, ?_, ?_, ?_⟩
    · have e1 : m1 * 2 ^ z1 * 2 ^ (X + z2) = (m1 * 2 ^ X) * 2 ^ (z1 + z2) := by
        rw [Nat.pow_add, Nat.pow_add]; simp only [Nat.mul_assoc, Nat.mul_comm, Nat.mul_left_comm]
      have e2 : 2 ^ (prec - 1) * (m2 * 2 ^ z2 * 2 ^ (k + z1)) = m2 * 2 ^ (prec - 1 + k) * 2 ^ (z1 + z2) := by
        rw [Nat.pow_add, Nat.pow_add, Nat.pow_add]; simp only [Nat.mul_assoc, Nat.mul_comm, Nat.mul_left_comm]
      rw [e1, e2, show prec - 1 + k = nb q - 1 by omega]
      refine Nat.mul_le_mul_right _ ?_
      have := Nat.mul_le_mul_left m2 qlo
      omega
    · have e1 : m1 * 2 ^ z1 * 2 ^ (X + z2) = (m1 * 2 ^ X) * 2 ^ (z1 + z2) := by
        rw [Nat.pow_add, Nat.pow_add]; simp only [Nat.mul_assoc, Nat.mul_comm, Nat.mul_left_comm]
      have e2 : 2 ^ prec * (m2 * 2 ^ z2 * 2 ^ (k + z1)) = m2 * 2 ^ (prec + k) * 2 ^ (z1 + z2) := by
        rw [Nat.pow_add, Nat.pow_add, Nat.pow_add]; simp only [Nat.mul_assoc, Nat.mul_comm, Nat.mul_left_comm]
      rw [e1, e2, ← hck]
      refine Nat.mul_lt_mul_of_pos_right ?_ hzz
      have := Nat.mul_le_mul_left m2 (show q + 1 ≤ 2 ^ nb q from qhi)
      rw [Nat.mul_add, Nat.mul_one] at this
      omega
    · unfold rnorm
      rw [if_neg (by omega), hc', rmag_rfrac (by omega)]
      have e : rfrac r sg (2 * q + 1) (2 ^ (k + 1)) = rfrac r sg (m1 * 2 ^ z1 * 2 ^ (X + z2)) (m2 * 2 ^ z2 * 2 ^ (k + z1)) := by
        rw [← hq, rfrac_sticky hm2 hr hn, Nat.add_sub_cancel]
        refine rfrac_congr (Nat.mul_pos hm2 (Nat.two_pow_pos k)) (Nat.mul_pos (Nat.mul_pos hm2 (Nat.two_pow_pos _)) (Nat.two_pow_pos _)) ?_
        rw [Nat.pow_add, Nat.pow_add]; simp only [Nat.mul_assoc, Nat.mul_comm, Nat.mul_left_comm]
      rw [e]; congr 1; push_cast; omega
/-- below the line a power of two -/
theorem fr_one {r : Str} {prec : Nat} {sg : Int} {m1 z1 z2 : Nat} (hp : 1 ≤ prec) (hp2 : prec ≤ 1000) (h1 : m1 ≠ 0) (b1 : nb m1 + z1 ≤ 500) (b2 : z2 ≤ 500) :
    IsFR r prec sg (m1 * 2 ^ z1) (1 * 2 ^ z2) (rnorm r sg prec m1 ((z1 : Int) - z2)) := by
  have l1 := nb_ge h1
  have u1 := nb_lt m1
  have p1 := nb_pos' h1
  rcases Nat.lt_or_ge prec (nb m1) with q | q
  · generalize hn : nb m1 - prec = n
    have hcn : nb m1 = prec + n := by omega
    refine ⟨z2, n + z1, by omega, by omega, ?_, ?_, ?_⟩
    · have e2 : 2 ^ (prec - 1) * (1 * 2 ^ z2 * 2 ^ (n + z1)) = 2 ^ (prec - 1 + n) * 2 ^ z1 * 2 ^ z2 := by
        rw [Nat.pow_add, Nat.pow_add, Nat.one_mul]; simp only [Nat.mul_assoc, Nat.mul_comm, Nat.mul_left_comm]
      rw [e2, show prec - 1 + n = nb m1 - 1 by omega]
      exact Nat.mul_le_mul_right _ (Nat.mul_le_mul_right _ l1)
    · have e2 : 2 ^ prec * (1 * 2 ^ z2 * 2 ^ (n + z1)) = 2 ^ (prec + n) * 2 ^ z1 * 2 ^ z2 := by
        rw [Nat.pow_add, Nat.pow_add, Nat.one_mul]; simp only [Nat.mul_assoc, Nat.mul_comm, Nat.mul_left_comm]
      rw [e2, ← hcn]
      exact Nat.mul_lt_mul_of_pos_right (Nat.mul_lt_mul_of_pos_right u1 (Nat.two_pow_pos _)) (Nat.two_pow_pos _)
    · unfold rnorm
      rw [if_neg (by omega), hn, rmag_rfrac (by omega)]
      have e : rfrac r sg m1 (2 ^ n) = rfrac r sg (m1 * 2 ^ z1 * 2 ^ z2) (1 * 2 ^ z2 * 2 ^ (n + z1)) := by
        refine rfrac_congr (Nat.two_pow_pos n) (Nat.mul_pos (Nat.mul_pos (by decide) (Nat.two_pow_pos _)) (Nat.two_pow_pos _)) ?_
        rw [Nat.pow_add, Nat.one_mul]; simp only [Nat.mul_assoc, Nat.mul_comm, Nat.mul_left_comm]
      rw [e]; congr 1; push_cast; omega
  · generalize hn : prec - nb m1 = n
    have hcn : prec = nb m1 + n := by omega
    refine ⟨n + z2, z1, by omega, by omega, ?_, ?_, ?_⟩
    · have e1 : m1 * 2 ^ z1 * 2 ^ (n + z2) = m1 * 2 ^ n * 2 ^ z1 * 2 ^ z2 := by
        rw [Nat.pow_add]; simp only [Nat.mul_assoc, Nat.mul_comm, Nat.mul_left_comm]
      have e2 : 2 ^ (prec - 1) * (1 * 2 ^ z2 * 2 ^ z1) = 2 ^ (nb m1 - 1) * 2 ^ n * 2 ^ z1 * 2 ^ z2 := by
        rw [show prec - 1 = nb m1 - 1 + n by omega, Nat.pow_add, Nat.one_mul]; simp only [Nat.mul_assoc, Nat.mul_comm, Nat.mul_left_comm]
      rw [e1, e2]
      exact Nat.mul_le_mul_right _ (Nat.mul_le_mul_right _ (Nat.mul_le_mul_right _ l1))
    · have e1 : m1 * 2 ^ z1 * 2 ^ (n + z2) = m1 * 2 ^ n * 2 ^ z1 * 2 ^ z2 := by
        rw [Nat.pow_add]; simp only [Nat.mul_assoc, Nat.mul_comm, Nat.mul_left_comm]
      have e2 : 2 ^ prec * (1 * 2 ^ z2 * 2 ^ z1) = 2 ^ nb m1 * 2 ^ n * 2 ^ z1 * 2 ^ z2 := by
        rw [hcn, Nat.pow_add, Nat.one_mul]; simp only [Nat.mul_assoc, Nat.mul_comm, Nat.mul_left_comm]
      rw [e1, e2]
      exact Nat.mul_lt_mul_of_pos_right (Nat.mul_lt_mul_of_pos_right (Nat.mul_lt_mul_of_pos_right u1 (Nat.two_pow_pos _)) (Nat.two_pow_pos _)) (Nat.two_pow_pos _)
    · rw [rnorm_small q]
      have e1 : m1 * 2 ^ z1 * 2 ^ (n + z2) = (m1 * 2 ^ n) * (1 * 2 ^ z2 * 2 ^ z1) := by
        rw [Nat.pow_add, Nat.one_mul]; simp only [Nat.mul_assoc, Nat.mul_comm, Nat.mul_left_comm]
      rw [e1, rfrac_exact (Nat.mul_pos (Nat.mul_pos (by decide) (Nat.two_pow_pos _)) (Nat.two_pow_pos _)), nrmN_scale]
      congr 1; push_cast; omega
end Mine

-- ---------- Hd ----------
open PySem PySem.W PyProof.Rows
set_option Elab.async false
set_option maxRecDepth 100000 in
set_option maxHeartbeats 8000000 in
open_top hd for PySem.Challenge.rw_aj5003_01

-- ---------- Prog ----------
set_option maxRecDepth 100000
set_option autoImplicit false
set_option linter.all false
namespace Mine
open PySem PySem.W PyProof.Rows PySem.Calls PySem.Spec

noncomputable abbrev DD (w : World) (p : Program) (loose : List Str) (mg mb : Str → Option Value) : Wd := ⟨PySem.Challenge.rw_aj5003_01.row.prog, w, hd.heap_39 w.params, p, loose, mg, mb⟩

section
variable {w : World} {p : Program} {loose : List Str} {mg mb : Str → Option Value} {n : Nat} {cs : Scope}

theorem SE.varL {D : Wd} {x : Str} {pos : Pos} (i : Nat) (h : cs.names[i]? = some (x, .local)) : SE D n cs (.Name x pos) (fun ρ P => getV ρ i P) := SE.var h
theorem SE.varC {D : Wd} {x : Str} {pos : Pos} (i : Nat) (h : cs.names[i]? = some (x, .cell)) : SE D n cs (.Name x pos) (fun ρ P => getV ρ i P) := SE.var h
theorem SE.varF {D : Wd} {x : Str} {pos : Pos} (i : Nat) (h : cs.names[i]? = some (x, .free)) : SE D n cs (.Name x pos) (fun ρ P => getV ρ i P) := SE.var h

/-! ### the text's own constants -/
theorem SE.globI {D : Wd} {x : Str} {pos : Pos} {j : Int} {t : Tok} (i : Nat) (e : nsIn D.K mainGlobals x = some (some (.int j t))) (h : cs.names[i]? = some (x, .globalImplicit)) :
    SE D n cs (.Name x pos) (fun _ P => P (.d (.int j))) := SE.glob (pv := .d (.int j)) h e (fun _ _ => ⟨_, rfl⟩)
theorem SE.globS {D : Wd} {x y : Str} {pos : Pos} {t : Tok} (i : Nat) (e : nsIn D.K mainGlobals x = some (some (.str y t))) (h : cs.names[i]? = some (x, .globalImplicit)) :
    SE D n cs (.Name x pos) (fun _ P => P (.d (.str y))) := SE.glob (pv := .d (.str y)) h e (fun _ _ => ⟨_, rfl⟩)
theorem tup4_rd {D : Wd} {h : Heap} {a : Addr} {dd : Option Addr} {k : Nat} {sl : Array (Option Value)} {i j l m : Int} {ti tj tl tm : Tok} (X : D.K.In h)
    (e : D.K.lookup a = some ⟨.type "tuple", dd, .seq #[.int i ti, .int j tj, .int l tl, .int m tm] k, sl⟩) : RD h (.tuple [.int i, .int j, .int l, .int m]) (.ref a) :=
  ⟨a, [_, _, _, _], rfl, ⟨_, X _ _ e, rfl, k, rfl⟩, ⟨_, rfl⟩, ⟨_, rfl⟩, ⟨_, rfl⟩, ⟨_, rfl⟩, trivial⟩
theorem SE.glob4 {D : Wd} {x : Str} {pos : Pos} {a : Addr} {d : PyData} (i : Nat) (e : nsIn D.K mainGlobals x = some (some (.ref a))) (e' : ∀ h, D.K.In h → RD h d (.ref a)) (h : cs.names[i]? = some (x, .globalImplicit)) :
    SE D n cs (.Name x pos) (fun _ P => P (.d d)) := SE.glob (pv := .d d) h e e'
theorem SE.globF {D : Wd} {x : Str} {pos : Pos} {a : Addr} (i : Nat) (e : nsIn D.K mainGlobals x = some (some (.ref a))) (h : cs.names[i]? = some (x, .globalImplicit)) :
    SE D n cs (.Name x pos) (fun _ P => P (.o (.ref a))) := SE.glob (pv := .o (.ref a)) h e (fun _ _ => rfl)
theorem SE.globB {D : Wd} {x : Str} {pos : Pos} {v : Value} (i : Nat) (e : nsIn D.K mainGlobals x = some Option.none) (hv : bootBuiltins x = some v) (hn : x ≠ "__name__") (h : cs.names[i]? = some (x, .globalImplicit)) :
    SE D n cs (.Name x pos) (fun _ P => P (.o v)) := SE.boot h e hv hn

/-! ### the table of shifts -/
def shiftVC : PV → (PV → Prop) → Prop
  | .d (.str r), P => (r = Str.ofString "f" ∧ P (.d (.tuple [.int 1, .int 0]))) ∨ (r = Str.ofString "c" ∧ P (.d (.tuple [.int 0, .int 1]))) ∨ (r = Str.ofString "d" ∧ P (.d (.tuple [.int 1, .int 1]))) ∨ (r = Str.ofString "u" ∧ P (.d (.tuple [.int 0, .int 0])))
  | _, _ => False

theorem tup2_rd {D : Wd} {h : Heap} {a : Addr} {dd : Option Addr} {k : Nat} {sl : Array (Option Value)} {i j : Int} {ti tj : Tok} (X : D.K.In h)
    (e : D.K.lookup a = some ⟨.type "tuple", dd, .seq #[.int i ti, .int j tj] k, sl⟩) : RD h (.tuple [.int i, .int j]) (.ref a) :=
  ⟨a, [_, _], rfl, ⟨_, X _ _ e, rfl, k, rfl⟩, ⟨_, rfl⟩, ⟨_, rfl⟩, trivial⟩
theorem SE.shifts {i : Expr} {p1 pos : Pos} {Wi : Env1 → (PV → Prop) → Prop} (hi : SE (DD w p loose mg mb) n cs i Wi) (k : Nat) (hk : cs.names[k]? = some (Str.ofString "shifts_down", .globalImplicit))
    (hs : ∀ o x, subscripted i false o x = operate [o, x] (getItem o x)) :
    SE (DD w p loose mg mb) n cs (.Subscript (.Name (Str.ofString "shifts_down") p1) i pos) (fun ρ P => Wi ρ fun b => shiftVC b P) := by
  intro A h₀ L a ccd cn cl m s ρ P Q hA F hW hQ
  refine Subscript_ (SE.globF (a := 26) k (by rfl) hk A h₀ L a ccd cn cl m s ρ (fun pv => pv = .o (.ref 26)) _ hA F rfl fun pf fv s₁ e₁ r₁ t₁ => ?_)
  subst e₁
  obtain rfl : fv = _ := r₁
  refine hi A h₀ L a ccd cn cl m s₁ ρ _ _ hA (F.after t₁.keep) hW fun pb u s₂ h₂ r₂ t₂ => ?_
  have F₂ := F.after (t₁.keep.trans t₂.keep)
  unfold shiftVC at h₂
  split at h₂
  · obtain ⟨t, rfl⟩ := r₂
    rcases h₂ with ⟨rfl, h⟩ | ⟨rfl, h⟩ | ⟨rfl, h⟩ | ⟨rfl, h⟩
    · exact topItem_K (v := .ref 27) F₂.fr F₂.gf.X (by rfl) (by exact ⟨⟨_, _, rfl, rfl⟩, ⟨_, _, rfl, rfl⟩, ⟨_, _, rfl, rfl⟩, ⟨_, _, rfl, rfl⟩, trivial⟩) (by rfl) (hQ _ _ _ h (tup2_rd F₂.g.X (by rfl)) ((t₁.trans t₂).trans .tok)) (hs _ _)
    · exact topItem_K (v := .ref 28) F₂.fr F₂.gf.X (by rfl) (by exact ⟨⟨_, _, rfl, rfl⟩, ⟨_, _, rfl, rfl⟩, ⟨_, _, rfl, rfl⟩, ⟨_, _, rfl, rfl⟩, trivial⟩) (by rfl) (hQ _ _ _ h (tup2_rd F₂.g.X (by rfl)) ((t₁.trans t₂).trans .tok)) (hs _ _)
    · exact topItem_K (v := .ref 29) F₂.fr F₂.gf.X (by rfl) (by exact ⟨⟨_, _, rfl, rfl⟩, ⟨_, _, rfl, rfl⟩, ⟨_, _, rfl, rfl⟩, ⟨_, _, rfl, rfl⟩, trivial⟩) (by rfl) (hQ _ _ _ h (tup2_rd F₂.g.X (by rfl)) ((t₁.trans t₂).trans .tok)) (hs _ _)
    · exact topItem_K (v := .ref 30) F₂.fr F₂.gf.X (by rfl) (by exact ⟨⟨_, _, rfl, rfl⟩, ⟨_, _, rfl, rfl⟩, ⟨_, _, rfl, rfl⟩, ⟨_, _, rfl, rfl⟩, trivial⟩) (by rfl) (hQ _ _ _ h (tup2_rd F₂.g.X (by rfl)) ((t₁.trans t₂).trans .tok)) (hs _ _)
  · exact h₂.elim
end

section glob
variable {w : World} {p : Program} {loose : List Str} {mg mb : Str → Option Value} {n : Nat} {cs : Scope}

theorem g_trailing : nsIn (DD w p loose mg mb).K mainGlobals (Str.ofString "trailing") = some (some (.ref 21)) := by rfl
theorem k_trailing : keepIn (DD w p loose mg mb).K (.ref 21) = true := by rfl
theorem g_unormalize : nsIn (DD w p loose mg mb).K mainGlobals (Str.ofString "_normalize") = some (some (.ref 37)) := by rfl
theorem k_unormalize : keepIn (DD w p loose mg mb).K (.ref 37) = true := by rfl
theorem g_normalize : nsIn (DD w p loose mg mb).K mainGlobals (Str.ofString "normalize") = some (some (.ref 44)) := by rfl
theorem k_normalize : keepIn (DD w p loose mg mb).K (.ref 44) = true := by rfl
theorem g_from_man_exp : nsIn (DD w p loose mg mb).K mainGlobals (Str.ofString "from_man_exp") = some (some (.ref 52)) := by rfl
theorem k_from_man_exp : keepIn (DD w p loose mg mb).K (.ref 52) = true := by rfl
theorem g_from_int : nsIn (DD w p loose mg mb).K mainGlobals (Str.ofString "from_int") = some (some (.ref 60)) := by rfl
theorem k_from_int : keepIn (DD w p loose mg mb).K (.ref 60) = true := by rfl
theorem g_from_rational : nsIn (DD w p loose mg mb).K mainGlobals (Str.ofString "from_rational") = some (some (.ref 68)) := by rfl
theorem k_from_rational : keepIn (DD w p loose mg mb).K (.ref 68) = true := by rfl
theorem g_to_rational : nsIn (DD w p loose mg mb).K mainGlobals (Str.ofString "to_rational") = some (some (.ref 75)) := by rfl
theorem k_to_rational : keepIn (DD w p loose mg mb).K (.ref 75) = true := by rfl
theorem g_mpf_cmp : nsIn (DD w p loose mg mb).K mainGlobals (Str.ofString "mpf_cmp") = some (some (.ref 82)) := by rfl
theorem k_mpf_cmp : keepIn (DD w p loose mg mb).K (.ref 82) = true := by rfl
theorem g_mpf_lt : nsIn (DD w p loose mg mb).K mainGlobals (Str.ofString "mpf_lt") = some (some (.ref 89)) := by rfl
theorem k_mpf_lt : keepIn (DD w p loose mg mb).K (.ref 89) = true := by rfl
theorem g_mpf_le : nsIn (DD w p loose mg mb).K mainGlobals (Str.ofString "mpf_le") = some (some (.ref 96)) := by rfl
theorem k_mpf_le : keepIn (DD w p loose mg mb).K (.ref 96) = true := by rfl
theorem g_mpf_neg : nsIn (DD w p loose mg mb).K mainGlobals (Str.ofString "mpf_neg") = some (some (.ref 104)) := by rfl
theorem k_mpf_neg : keepIn (DD w p loose mg mb).K (.ref 104) = true := by rfl
theorem g_mpf_abs : nsIn (DD w p loose mg mb).K mainGlobals (Str.ofString "mpf_abs") = some (some (.ref 112)) := by rfl
theorem k_mpf_abs : keepIn (DD w p loose mg mb).K (.ref 112) = true := by rfl
theorem g_mpf_sign : nsIn (DD w p loose mg mb).K mainGlobals (Str.ofString "mpf_sign") = some (some (.ref 119)) := by rfl
theorem k_mpf_sign : keepIn (DD w p loose mg mb).K (.ref 119) = true := by rfl
theorem g_mpf_add : nsIn (DD w p loose mg mb).K mainGlobals (Str.ofString "mpf_add") = some (some (.ref 127)) := by rfl
theorem k_mpf_add : keepIn (DD w p loose mg mb).K (.ref 127) = true := by rfl
theorem g_mpf_sub : nsIn (DD w p loose mg mb).K mainGlobals (Str.ofString "mpf_sub") = some (some (.ref 135)) := by rfl
theorem k_mpf_sub : keepIn (DD w p loose mg mb).K (.ref 135) = true := by rfl
theorem g_mpf_mul : nsIn (DD w p loose mg mb).K mainGlobals (Str.ofString "mpf_mul") = some (some (.ref 143)) := by rfl
theorem k_mpf_mul : keepIn (DD w p loose mg mb).K (.ref 143) = true := by rfl
theorem g_mpf_mul_int : nsIn (DD w p loose mg mb).K mainGlobals (Str.ofString "mpf_mul_int") = some (some (.ref 151)) := by rfl
theorem k_mpf_mul_int : keepIn (DD w p loose mg mb).K (.ref 151) = true := by rfl
theorem g_mpf_div : nsIn (DD w p loose mg mb).K mainGlobals (Str.ofString "mpf_div") = some (some (.ref 159)) := by rfl
theorem k_mpf_div : keepIn (DD w p loose mg mb).K (.ref 159) = true := by rfl
theorem g_ulaw_mixed : nsIn (DD w p loose mg mb).K mainGlobals (Str.ofString "_law_mixed") = some (some (.ref 166)) := by rfl
theorem k_ulaw_mixed : keepIn (DD w p loose mg mb).K (.ref 166) = true := by rfl
theorem g_ulaw_raw : nsIn (DD w p loose mg mb).K mainGlobals (Str.ofString "_law_raw") = some (some (.ref 173)) := by rfl
theorem k_ulaw_raw : keepIn (DD w p loose mg mb).K (.ref 173) = true := by rfl
theorem g_ulaw_row : nsIn (DD w p loose mg mb).K mainGlobals (Str.ofString "_law_row") = some (some (.ref 180)) := by rfl
theorem k_ulaw_row : keepIn (DD w p loose mg mb).K (.ref 180) = true := by rfl
theorem g_ulaw_one_right : nsIn (DD w p loose mg mb).K mainGlobals (Str.ofString "_law_one_right") = some (some (.ref 185)) := by rfl
theorem k_ulaw_one_right : keepIn (DD w p loose mg mb).K (.ref 185) = true := by rfl
theorem g_ulaw_near_right : nsIn (DD w p loose mg mb).K mainGlobals (Str.ofString "_law_near_right") = some (some (.ref 192)) := by rfl
theorem k_ulaw_near_right : keepIn (DD w p loose mg mb).K (.ref 192) = true := by rfl
theorem g_ulaw_found_right : nsIn (DD w p loose mg mb).K mainGlobals (Str.ofString "_law_found_right") = some (some (.ref 197)) := by rfl
theorem k_ulaw_found_right : keepIn (DD w p loose mg mb).K (.ref 197) = true := by rfl
theorem g_law : nsIn (DD w p loose mg mb).K mainGlobals (Str.ofString "law") = some (some (.ref 204)) := by rfl
theorem k_law : keepIn (DD w p loose mg mb).K (.ref 204) = true := by rfl
theorem g_MPZ_ZERO : nsIn (DD w p loose mg mb).K mainGlobals (Str.ofString "MPZ_ZERO") = some (some (.int 0 187)) := by rfl
theorem g_MPZ_ONE : nsIn (DD w p loose mg mb).K mainGlobals (Str.ofString "MPZ_ONE") = some (some (.int 1 189)) := by rfl
theorem g_round_nearest : nsIn (DD w p loose mg mb).K mainGlobals (Str.ofString "round_nearest") = some (some (.str (Str.ofString "n") 202)) := by rfl
theorem g_round_floor : nsIn (DD w p loose mg mb).K mainGlobals (Str.ofString "round_floor") = some (some (.str (Str.ofString "f") 204)) := by rfl
theorem g_round_ceiling : nsIn (DD w p loose mg mb).K mainGlobals (Str.ofString "round_ceiling") = some (some (.str (Str.ofString "c") 206)) := by rfl
theorem g_round_up : nsIn (DD w p loose mg mb).K mainGlobals (Str.ofString "round_up") = some (some (.str (Str.ofString "u") 208)) := by rfl
theorem g_round_down : nsIn (DD w p loose mg mb).K mainGlobals (Str.ofString "round_down") = some (some (.str (Str.ofString "d") 210)) := by rfl
theorem g_round_fast : nsIn (DD w p loose mg mb).K mainGlobals (Str.ofString "round_fast") = some (some (.str (Str.ofString "d") 210)) := by rfl
theorem g_fzero : nsIn (DD w p loose mg mb).K mainGlobals (Str.ofString "fzero") = some (some (.ref 22)) := by rfl
theorem rd_fzero : ∀ h, (DD w p loose mg mb).K.In h → RD h (.tuple [.int 0, .int 0, .int 0, .int 0]) (.ref 22) := fun _ X => tup4_rd X (by rfl)
theorem g_fnan : nsIn (DD w p loose mg mb).K mainGlobals (Str.ofString "fnan") = some (some (.ref 23)) := by rfl
theorem rd_fnan : ∀ h, (DD w p loose mg mb).K.In h → RD h (.tuple [.int 0, .int 0, .int (-123), .int (-1)]) (.ref 23) := fun _ X => tup4_rd X (by rfl)
theorem g_finf : nsIn (DD w p loose mg mb).K mainGlobals (Str.ofString "finf") = some (some (.ref 24)) := by rfl
theorem rd_finf : ∀ h, (DD w p loose mg mb).K.In h → RD h (.tuple [.int 0, .int 0, .int (-456), .int (-2)]) (.ref 24) := fun _ X => tup4_rd X (by rfl)
theorem g_fninf : nsIn (DD w p loose mg mb).K mainGlobals (Str.ofString "fninf") = some (some (.ref 25)) := by rfl
theorem rd_fninf : ∀ h, (DD w p loose mg mb).K.In h → RD h (.tuple [.int 1, .int 0, .int (-789), .int (-3)]) (.ref 25) := fun _ X => tup4_rd X (by rfl)
theorem g_int : nsIn (DD w p loose mg mb).K mainGlobals (Str.ofString "int") = some Option.none := by rfl
theorem g_len : nsIn (DD w p loose mg mb).K mainGlobals (Str.ofString "len") = some Option.none := by rfl
theorem g_abs : nsIn (DD w p loose mg mb).K mainGlobals (Str.ofString "abs") = some Option.none := by rfl
theorem g_divmod : nsIn (DD w p loose mg mb).K mainGlobals (Str.ofString "divmod") = some Option.none := by rfl
theorem g_isinstance : nsIn (DD w p loose mg mb).K mainGlobals (Str.ofString "isinstance") = some Option.none := by rfl
theorem g_all : nsIn (DD w p loose mg mb).K mainGlobals (Str.ofString "all") = some Option.none := by rfl
theorem g_range : nsIn (DD w p loose mg mb).K mainGlobals (Str.ofString "range") = some Option.none := by rfl
theorem b_int : bootBuiltins (Str.ofString "int") = some (.type "int") := by decide +kernel
theorem b_len : bootBuiltins (Str.ofString "len") = some (.builtin "len") := by decide +kernel
theorem b_abs : bootBuiltins (Str.ofString "abs") = some (.builtin "abs") := by decide +kernel
theorem b_divmod : bootBuiltins (Str.ofString "divmod") = some (.builtin "divmod") := by decide +kernel
theorem b_isinstance : bootBuiltins (Str.ofString "isinstance") = some (.builtin "isinstance") := by decide +kernel
theorem b_all : bootBuiltins (Str.ofString "all") = some (.builtin "all") := by decide +kernel
end glob


section vcs
variable {x y : Int} {a b : PV} {P : PV → Prop} {R : Bool → Prop} {u v : PyData} {ρ : Env1} {i j : Nat} {xs : List PyData} {ps : List PV} {N : Env1 → Prop}
theorem v_add : binVC .Add (.d (.int x)) (.d (.int y)) P = P (.d (.int (x + y))) := rfl
theorem v_sub : binVC .Sub (.d (.int x)) (.d (.int y)) P = P (.d (.int (x - y))) := rfl
theorem v_mul : binVC .Mult (.d (.int x)) (.d (.int y)) P = (IntMulOk x y ∧ P (.d (.int (x * y)))) := rfl
theorem v_div : binVC .FloorDiv (.d (.int x)) (.d (.int y)) P = (y ≠ 0 ∧ Builtin.divisionGoesByPylong x y = false ∧ P (.d (.int (x.fdiv y)))) := rfl
theorem v_mod : binVC .Mod (.d (.int x)) (.d (.int y)) P = (y ≠ 0 ∧ P (.d (.int (x.fmod y)))) := rfl
theorem v_shl : binVC .LShift (.d (.int x)) (.d (.int y)) P = (0 ≤ y ∧ (Builtin.Int.intBits x : Int) + y ≤ 2 ^ 27 ∧ P (.d (.int (x * 2 ^ y.toNat)))) := rfl
theorem v_shr : binVC .RShift (.d (.int x)) (.d (.int y)) P = (0 ≤ y ∧ P (.d (.int (x.fdiv (2 ^ y.toNat))))) := rfl
theorem v_and : binVC .BitAnd (.d (.int x)) (.d (.int y)) P = P (.d (.int (Builtin.bitAnd x y))) := rfl
theorem v_xor : binVC .BitXor (.d (.int x)) (.d (.int y)) P = P (.d (.int (Builtin.bitXor x y))) := rfl
theorem v_pow : binVC .Pow (.d (.int x)) (.d (.int y)) P = (0 ≤ y ∧ y ≤ 1000000 ∧ x.natAbs < 2 ^ 64 ∧ P (.d (.int (x ^ y.toNat)))) := rfl
theorem v_iadd : augVC .Add (.d (.int x)) (.d (.int y)) P = P (.d (.int (x + y))) := rfl
theorem v_isub : augVC .Sub (.d (.int x)) (.d (.int y)) P = P (.d (.int (x - y))) := rfl
theorem v_imul : augVC .Mult (.d (.int x)) (.d (.int y)) P = (IntMulOk x y ∧ P (.d (.int (x * y)))) := rfl
theorem v_ishl : augVC .LShift (.d (.int x)) (.d (.int y)) P = (0 ≤ y ∧ (Builtin.Int.intBits x : Int) + y ≤ 2 ^ 27 ∧ P (.d (.int (x * 2 ^ y.toNat)))) := rfl
theorem v_ishr : augVC .RShift (.d (.int x)) (.d (.int y)) P = (0 ≤ y ∧ P (.d (.int (x.fdiv (2 ^ y.toNat))))) := rfl
theorem v_ixor : augVC .BitXor (.d (.int x)) (.d (.int y)) P = P (.d (.int (Builtin.bitXor x y))) := rfl
theorem v_tint : truthVC (.d (.int x)) R = R (x != 0) := rfl
theorem v_tbool {c : Bool} : truthVC (.d (.bool c)) R = R c := rfl
theorem v_tnone : truthVC (.d .none) R = R false := rfl
theorem v_usub : unVC .USub (.d (.int x)) P = P (.d (.int (-x))) := rfl
theorem v_unot : unVC .Not a P = truthVC a fun c => P (.d (.bool (!c))) := by cases a <;> rfl
theorem v_lt : cmpVC .Lt (.d (.int x)) (.d (.int y)) R = R (decide (x < y)) := rfl
theorem v_le : cmpVC .LtE (.d (.int x)) (.d (.int y)) R = R (decide (x ≤ y)) := rfl
theorem v_gt : cmpVC .Gt (.d (.int x)) (.d (.int y)) R = R (decide (y < x)) := rfl
theorem v_ge : cmpVC .GtE (.d (.int x)) (.d (.int y)) R = R (decide (y ≤ x)) := rfl
theorem sh_int : SeqAt.shaped (.int x) = true := rfl
theorem v_eqi : cmpVC .Eq (.d (.int x)) (.d (.int y)) R = R (decide (x = y)) := by
  show (SeqAt.shaped (.int x) = true ∧ SeqAt.shaped (.int y) = true ∧ R (PyData.eqv (.int x) (.int y))) = _
  simp [sh_int, PyData.eqv, Bool.beq_eq_decide_eq]
theorem v_nei : cmpVC .NotEq (.d (.int x)) (.d (.int y)) R = R (decide (x ≠ y)) := by
  show (SeqAt.shaped (.int x) = true ∧ SeqAt.shaped (.int y) = true ∧ R (!PyData.eqv (.int x) (.int y))) = _
  simp [sh_int, PyData.eqv, Bool.beq_eq_decide_eq]
theorem v_eqs {x y : Str} : cmpVC .Eq (.d (.str x)) (.d (.str y)) R = R (decide (x = y)) := by
  show R (x == y) = _
  congr 1
theorem v_neb {x y : Bool} : cmpVC .NotEq (.d (.bool x)) (.d (.bool y)) R = R (x != y) := by
  show (SeqAt.shaped (.bool x) = true ∧ SeqAt.shaped (.bool y) = true ∧ R (!PyData.eqv (.bool x) (.bool y))) = _
  cases x <;> cases y <;> simp [PyData.eqv, SeqAt.shaped, PyData.canLay0, PyData.depth]
theorem v_bits : bitVC (.d (.int x)) P = P (.d (.int (Builtin.Int.intBits x))) := rfl
theorem v_get0 {v : PV} {r : Env1} : getV (some v :: r) 0 P = P v := rfl
theorem v_getS {v : Option PV} {r : Env1} : getV (v :: r) (i + 1) P = getV r i P := by cases v <;> rfl
theorem v_set0 {v : Option PV} {u : PV} {r : Env1} : setV (v :: r) 0 u = some u :: r := rfl
theorem v_setS {v : Option PV} {u : PV} {r : Env1} : setV (v :: r) (i + 1) u = v :: setV r i u := rfl
theorem v_all0 {P : List PyData → Prop} : allD [] P = P [] := rfl
theorem v_allS {P : List PyData → Prop} {r : List PV} : allD (.d u :: r) P = allD r fun xs => P (u :: xs) := rfl
theorem v_sets0 : setsVC ρ [] [] N = N ρ := rfl
theorem v_setsS {is : List Nat} : setsVC ρ (i :: is) (u :: xs) N = setsVC (setV ρ i (.d u)) is xs N := rfl
theorem v_nsets0 : nsetsVC ρ [] [] N = N ρ := rfl
theorem v_nsetsS {is : List Nat} : nsetsVC ρ (i :: is) (a :: ps) N = nsetsVC (setV ρ i a) is ps N := rfl
theorem v_unt {k : Nat} {is : List Nat} : unpackVC (.d (.tuple xs)) k ρ is N = (xs.length = k ∧ setsVC ρ is xs N) := rfl
theorem v_unl {k : Nat} {is : List Nat} : unpackVC (.d (.list xs)) k ρ is N = (xs.length = k ∧ setsVC ρ is xs N) := rfl
theorem v_itl {k : Int} : itemVC (.d (.list xs)) (.d (.int k)) P = (0 ≤ k ∧ k < 2 ^ 63 ∧ match xs[k.toNat]? with | some x => P (.d x) | none => False) := rfl
theorem v_it0 : itemVC (.d (.tuple (u :: xs))) (.d (.int 0)) P = P (.d u) := by
  apply propext
  show (_ ∧ _ ∧ ∃ j, _ ∧ _) ↔ _
  constructor
  · rintro ⟨_, _, j, hj, hx⟩
    have : j = 0 := by simp [seqIndex?] at hj; omega
    subst this; exact hx
  · intro h
    exact ⟨by decide, by decide, 0, by simp [seqIndex?], h⟩
theorem v_it1 : itemVC (.d (.tuple (u :: v :: xs))) (.d (.int 1)) P = P (.d v) := by
  apply propext
  show (_ ∧ _ ∧ ∃ j, _ ∧ _) ↔ _
  constructor
  · rintro ⟨_, _, j, hj, hx⟩
    have : j = 1 := by simp [seqIndex?] at hj; omega
    subst this; exact hx
  · intro h
    exact ⟨by decide, by decide, 1, by simp [seqIndex?]; omega, h⟩
theorem v_it2 {t : PyData} : itemVC (.d (.tuple (u :: v :: t :: xs))) (.d (.int 2)) P = P (.d t) := by
  apply propext
  show (_ ∧ _ ∧ ∃ j, _ ∧ _) ↔ _
  constructor
  · rintro ⟨_, _, j, hj, hx⟩
    have : j = 2 := by simp [seqIndex?] at hj; omega
    subst this; exact hx
  · intro h
    exact ⟨by decide, by decide, 2, by simp [seqIndex?]; omega, h⟩
theorem v_it3 {t q : PyData} : itemVC (.d (.tuple (u :: v :: t :: q :: xs))) (.d (.int 3)) P = P (.d q) := by
  apply propext
  show (_ ∧ _ ∧ ∃ j, _ ∧ _) ↔ _
  constructor
  · rintro ⟨_, _, j, hj, hx⟩
    have : j = 3 := by simp [seqIndex?] at hj; omega
    subst this; exact hx
  · intro h
    exact ⟨by decide, by decide, 3, by simp [seqIndex?]; omega, h⟩
theorem v_int : C_int [.d (.int x)] P = P (.d (.int x)) := rfl
theorem v_abs : C_abs [.d (.int x)] P = P (.d (.int (if x < 0 then -x else x))) := rfl
theorem v_len : C_len [.d (.list xs)] P = (xs.length ≤ 1000000 ∧ P (.d (.int xs.length))) := rfl
theorem v_divmod : C_divmod [.d (.int x), .d (.int y)] P = (y ≠ 0 ∧ Builtin.divisionGoesByPylong x y = false ∧ P (.d (.tuple [.int (x.fdiv y), .int (x.fmod y)]))) := rfl
theorem v_isint : C_isint [.d (.int x), .o (.type "int")] P = P (.d (.bool true)) := rfl
theorem v_shift {r : Str} : shiftVC (.d (.str r)) P = ((r = Str.ofString "f" ∧ P (.d (.tuple [.int 1, .int 0]))) ∨ (r = Str.ofString "c" ∧ P (.d (.tuple [.int 0, .int 1]))) ∨ (r = Str.ofString "d" ∧ P (.d (.tuple [.int 1, .int 1]))) ∨ (r = Str.ofString "u" ∧ P (.d (.tuple [.int 0, .int 0])))) := rfl
theorem sh_4 {a b c d : Int} : SeqAt.shaped (.tuple [.int a, .int b, .int c, .int d]) = true := by
  simp [SeqAt.shaped, PyData.canLay0, PyData.canLayAll0, PyData.depth, PyData.depthAll]
theorem eqv_4 {a b c d a' b' c' d' : Int} : PyData.eqv (.tuple [.int a, .int b, .int c, .int d]) (.tuple [.int a', .int b', .int c', .int d']) = decide (a = a' ∧ b = b' ∧ c = c' ∧ d = d') := by
  simp only [PyData.eqv, PyData.eqvAll, Bool.and_true]
  by_cases h1 : a = a' <;> by_cases h2 : b = b' <;> by_cases h3 : c = c' <;> by_cases h4 : d = d' <;> simp [h1, h2, h3, h4]
theorem v_eq4 {a b c d a' b' c' d' : Int} : cmpVC .Eq (.d (.tuple [.int a, .int b, .int c, .int d])) (.d (.tuple [.int a', .int b', .int c', .int d'])) R = R (decide (a = a' ∧ b = b' ∧ c = c' ∧ d = d')) := by
  show (SeqAt.shaped _ = true ∧ SeqAt.shaped _ = true ∧ R (PyData.eqv _ _)) = _
  rw [sh_4, sh_4, eqv_4]; simp
theorem v_in4 {a b c d a' b' c' d' a'' b'' c'' d'' : Int} : cmpVC .In (.d (.tuple [.int a, .int b, .int c, .int d])) (.d (.tuple [.tuple [.int a', .int b', .int c', .int d'], .tuple [.int a'', .int b'', .int c'', .int d'']])) R =
    R (decide ((a' = a ∧ b' = b ∧ c' = c ∧ d' = d) ∨ (a'' = a ∧ b'' = b ∧ c'' = c ∧ d'' = d))) := by
  show (SeqAt.shaped _ = true ∧ SeqAt.shaped _ = true ∧ R (List.any _ fun y => PyData.eqv y _)) = _
  have h : SeqAt.shaped (.tuple [.tuple [.int a', .int b', .int c', .int d'], .tuple [.int a'', .int b'', .int c'', .int d'']]) = true := by
    simp [SeqAt.shaped, PyData.canLay0, PyData.canLayAll0, PyData.depth, PyData.depthAll]
  rw [h, sh_4]
  simp only [List.any_cons, List.any_nil, eqv_4, Bool.or_false, true_and]
  simp
theorem v_eq2 {a b a' b' : Int} : cmpVC .Eq (.d (.tuple [.int a, .int b])) (.d (.tuple [.int a', .int b'])) R = R (decide (a = a' ∧ b = b')) := by
  have sh_2 : ∀ x y : Int, SeqAt.shaped (.tuple [.int x, .int y]) = true := fun x y => by simp [SeqAt.shaped, PyData.canLay0, PyData.canLayAll0, PyData.depth, PyData.depthAll]
  show (SeqAt.shaped _ = true ∧ SeqAt.shaped _ = true ∧ R (PyData.eqv _ _)) = _
  rw [sh_2, sh_2]
  simp only [PyData.eqv, PyData.eqvAll, Bool.and_true, true_and]
  congr 1
  by_cases h1 : a = a' <;> by_cases h2 : b = b' <;> simp [h1, h2]
end vcs
end Mine

-- ---------- Fn1 ----------
set_option maxRecDepth 100000
set_option autoImplicit false
set_option linter.all false
set_option Elab.async false
set_option maxHeartbeats 4000000
namespace Mine
open PySem PySem.W PyProof.Rows PySem.Calls PySem.Spec

local macro_rules | `(tactic| walk_at "vc") => `(tactic| simp only [init, List.map_cons, List.map_nil, List.cons_append, List.nil_append, List.append_nil, List.length_cons, List.length_nil, List.replicate, List.replicate_zero, List.replicate_succ, List.reverse_cons, List.reverse_nil,
  Nat.reduceAdd, Nat.reduceSub, v_add, v_sub, v_mul, v_div, v_mod, v_shl, v_shr, v_and, v_xor, v_pow, v_iadd, v_isub, v_imul, v_ishl, v_ishr, v_ixor, v_tint, v_tbool, v_tnone, v_usub, v_unot, v_lt, v_le, v_gt, v_ge, v_eqi, v_nei, v_eqs, v_neb, v_eq4, v_in4, v_eq2,
  v_bits, v_get0, v_getS, v_set0, v_setS, v_all0, v_allS, v_sets0, v_setsS, v_nsets0, v_nsetsS, v_unt, v_unl, v_itl, v_it0, v_it1, v_it2, v_it3, v_int, v_abs, v_len, v_divmod, v_isint, v_shift,
  Bool.not_eq_true', Bool.not_eq_false', bne_iff_ne, ne_eq, bne_eq_false_iff_eq, Bool.not_true, Bool.not_false, decide_eq_true_eq, decide_eq_false_iff_not, true_and, and_true, forall_const, reduceCtorEq, false_implies, true_implies])
-- fsd: the plain goals of FS.def
local macro_rules | `(tactic| walk_at "fsd") => `(tactic| (
  (case ho => exact rfl)
  (case hcd => exact rfl)
  (case e1 => exact rfl)
  (case e2 => decide)
  (case e3 => decide)
  (case e10 => decide)
  (case e4 => decide)
  (case e5 => decide)
  (case e6 => exact rfl)
  (case e7 => exact rfl)
  (case e8 => exact rfl)
  (case e9 => exact rfl)
  skip))

section
variable {w : World} {p : Program} {loose : List Str} {mg mb : Str → Option Value} {n : Nat} {cs : Scope}

def C_trailing (pvs : List PV) (P : PV → Prop) : Prop := ∃ M : Nat, pvs = [.d (.int M)] ∧ P (.d (.int (tz M)))

theorem fs_trailing_1 : FS (DD w p loose mg mb) (.ref 21) 1 C_trailing := by
  refine' FS.def (ps := [Str.ofString "n"]) (k := 1) (dfl := []) ?ho ?hcd ?hb ?e1 ?e2 ?e3 ?e10 ?e4 ?e5 ?e6 ?e7 ?e8 ?hS ?e9 ?hl ?hC
  walk_at "fsd"
  case hb => intro s vs G hl; match vs, hl with
    | [v], _ => exact ⟨[], .of_eq rfl, trivial⟩
  case hS => exact (SS.cons (S1.ite (ST.not (ST.val (SE.varL 0 rfl) (fun _ _ => rfl))) (SS.cons (S1.ret SE.int)
 SS.nil) SS.nil)
 (SS.cons (S1.ret (SE.bin (SE.bits (SE.bin (SE.varL 0 rfl) (SE.un (SE.varL 0 rfl))) (fun _ => ⟨_, rfl⟩)) SE.int))
 SS.nil))
  case hl => rintro pvs P ⟨M, rfl, h⟩; rfl
  case hC =>
    rintro pvs P ⟨M, rfl, h⟩
    walk_at "vc"
    refine ⟨fun h0 => ?_, fun h0 => ?_⟩
    · have : M = 0 := by omega
      subst this
      simpa [tz] using h
    · have : M ≠ 0 := by omega
      rw [trailing_eq M this]; exact h

def C_norm (pvs : List PV) (P : PV → Prop) : Prop := ∃ (sg : Int) (M : Nat) (e : Int) (prec : Nat) (r : Str),
  pvs = [.d (.int sg), .d (.int M), .d (.int e), .d (.int (nb M)), .d (.int prec), .d (.str r)] ∧ (sg = 0 ∨ sg = 1) ∧ (M ≠ 0 → 1 ≤ prec) ∧ Mode r ∧ nb M ≤ 100000 ∧ P (.d (rnorm r sg prec M e))

theorem fs_unormalize_6 : FS (DD w p loose mg mb) (.ref 37) 2 C_norm := by
  refine' FS.def (ps := [Str.ofString "sign", Str.ofString "man", Str.ofString "exp", Str.ofString "bc", Str.ofString "prec", Str.ofString "rnd"]) (k := 6) (dfl := []) ?ho ?hcd ?hb ?e1 ?e2 ?e3 ?e10 ?e4 ?e5 ?e6 ?e7 ?e8 ?hS ?e9 ?hl ?hC
  walk_at "fsd"
  case hb => intro s vs G hl; match vs, hl with
    | [_, _, _, _, _, _], _ => exact ⟨[], .of_eq rfl, trivial⟩
  case hS => exact (SS.cons (S1.ite (ST.not (ST.val (SE.varL 1 rfl) (fun _ _ => rfl))) (SS.cons (S1.ret (SE.glob4 8 g_fzero rd_fzero rfl))
 SS.nil) SS.nil)
 (SS.cons (S1.assign (i := 6) (SE.bin (SE.varL 3 rfl) (SE.varL 4 rfl)) rfl (.inl rfl) (fun _ => rfl))
 (SS.cons (S1.cut (S1.ite (ST.cmp (SE.varL 6 rfl) SE.int rfl) (SS.cons (S1.ite (ST.cmp (SE.varL 5 rfl) (SE.globS 9 g_round_nearest rfl) rfl) (SS.cons (S1.assign (i := 7) (SE.bin (SE.varL 1 rfl) (SE.bin (SE.varL 6 rfl) SE.int)) rfl (.inl rfl) (fun _ => rfl))
 (SS.cons (S1.ite (ST.and2 (ST.val (SE.bin (SE.varL 7 rfl) SE.int) (fun _ _ => rfl)) (ST.or2 (ST.val (SE.bin (SE.varL 7 rfl) SE.int) (fun _ _ => rfl)) (ST.val (SE.bin (SE.varL 1 rfl) (SE.bin (SE.bin (SE.globI 10 g_MPZ_ONE rfl) (SE.bin (SE.varL 6 rfl) SE.int)) SE.int)) (fun _ _ => rfl)))) (SS.cons (S1.assign (i := 1) (SE.bin (SE.bin (SE.varL 7 rfl) SE.int) SE.int) rfl (.inl rfl) (fun _ => rfl))
 SS.nil) (SS.cons (S1.assign (i := 1) (SE.bin (SE.varL 7 rfl) SE.int) rfl (.inl rfl) (fun _ => rfl))
 SS.nil))
 SS.nil)) (SS.cons (S1.ite (ST.val (SE.item (SE.shifts (SE.varL 5 rfl) 11 rfl (fun _ _ => by with_unfolding_all rfl)) (SE.varL 0 rfl) (fun _ _ => by with_unfolding_all rfl)) (fun _ _ => rfl)) (SS.cons (S1.aug (i := 1) (SE.varL 6 rfl) rfl rfl)
 SS.nil) (SS.cons (S1.assign (i := 1) (SE.un (SE.bin (SE.un (SE.varL 1 rfl)) (SE.varL 6 rfl))) rfl (.inl rfl) (fun _ => rfl))
 SS.nil))
 SS.nil))
 (SS.cons (S1.aug (i := 2) (SE.varL 6 rfl) rfl rfl)
 (SS.cons (S1.assign (i := 3) (SE.varL 4 rfl) rfl (.inl rfl) (fun _ => rfl))
 SS.nil))) SS.nil))
 (SS.cons (S1.ite (ST.not (ST.val (SE.bin (SE.varL 1 rfl) SE.int) (fun _ _ => rfl))) (SS.cons (S1.assign (i := 7) (SE.callN (SE.globF 12 g_trailing rfl) rfl fs_trailing_1 (by decide) (SA.cons (SE.varL 1 rfl) SA.nil (fun _ => rfl)) (.inr k_trailing) (fun _ => rfl) NoStar.nil) rfl (.inl rfl) (fun _ => rfl))
 (SS.cons (S1.aug (i := 1) (SE.varL 7 rfl) rfl rfl)
 (SS.cons (S1.aug (i := 2) (SE.varL 7 rfl) rfl rfl)
 (SS.cons (S1.aug (i := 3) (SE.varL 7 rfl) rfl rfl)
 SS.nil)))) SS.nil)
 (SS.cons (S1.ite (ST.cmp (SE.varL 1 rfl) SE.int rfl) (SS.cons (S1.assign (i := 3) SE.int rfl (.inl rfl) (fun _ => rfl))
 SS.nil) SS.nil)
 (SS.cons (S1.ret (SE.tuple (SA.cons (SE.varL 0 rfl) (SA.cons (SE.varL 1 rfl) (SA.cons (SE.varL 2 rfl) (SA.cons (SE.varL 3 rfl) SA.nil (fun _ => rfl)) (fun _ => rfl)) (fun _ => rfl)) (fun _ => rfl)) (by decide)))
 SS.nil))))))
  case hl => rintro pvs P ⟨_, _, _, _, _, rfl, _⟩; rfl
  case hC =>
    rintro pvs P ⟨sg, M, e, prec, r, rfl, hs, hp, hr, hM, h⟩
    have tail : ∀ (T : Nat) (E B : Int), T ≠ 0 → (T = 2 ^ tz T ∨ B = nb T) → rnorm r sg prec M e = nrmN sg T E →
        (Builtin.bitAnd (T : Int) 1 = 0 → ((T : Int).fdiv (2 ^ ((tz T : Nat) : Int).toNat) = 1 → P (.d (.tuple [.int sg, .int ((T : Int).fdiv (2 ^ ((tz T : Nat) : Int).toNat)), .int (E + (tz T : Int)), .int 1]))) ∧
          (¬ (T : Int).fdiv (2 ^ ((tz T : Nat) : Int).toNat) = 1 → P (.d (.tuple [.int sg, .int ((T : Int).fdiv (2 ^ ((tz T : Nat) : Int).toNat)), .int (E + (tz T : Int)), .int (B - (tz T : Int))])))) ∧
        (¬ Builtin.bitAnd (T : Int) 1 = 0 → ((T : Int) = 1 → P (.d (.tuple [.int sg, .int (T : Int), .int E, .int 1]))) ∧ (¬ (T : Int) = 1 → P (.d (.tuple [.int sg, .int (T : Int), .int E, .int B])))) := by
      intro T E B h0 hB hR
      rw [hR, fin_mk h0 B hB] at h
      rw [Int.toNat_natCast, fdiv_pow, bitAnd_one]
      refine ⟨fun _ => ⟨fun q => ?_, fun q => ?_⟩, fun q0 => ?_⟩
      · rw [if_pos q] at h; exact h
      · rw [if_neg q] at h; exact h
      · have hz : tz T = 0 := tz_odd (by omega)
        rw [hz] at h
        simp only [Nat.pow_zero, Nat.div_one, Int.natCast_zero, Int.add_zero, Int.sub_zero] at h
        refine ⟨fun q => ?_, fun q => ?_⟩
        · rw [if_pos q] at h; exact h
        · rw [if_neg q] at h; exact h
    walk_at "vc"
    refine ⟨fun h0 => ?_, fun h0 => ?_⟩
    · have : M = 0 := by omega
      subst this
      simpa [rnorm, nrmN, nb, fz] using h
    · have hM0 : M ≠ 0 := by omega
      have hp1 := hp hM0
      refine ⟨fun ρ' => ∃ (man E B : Int) (T : Nat) (x y : Option PV), ρ' = [some (.d (.int sg)), some (.d (.int man)), some (.d (.int E)), some (.d (.int B)), some (.d (.int prec)), some (.d (.str r)), x, y, none, none, none, none, none] ∧ man = (T : Int) ∧
        T ≠ 0 ∧ (T = 2 ^ tz T ∨ B = nb T) ∧ rnorm r sg prec M e = nrmN sg T E, ⟨fun hn => ?_, fun hn => ?_⟩, ?_⟩
      · obtain ⟨k, hk⟩ : ∃ k, nb M = prec + (k + 1) := ⟨nb M - prec - 1, by omega⟩
        have hlt : prec < nb M := by omega
        have hsub : nb M - prec = k + 1 := by omega
        have e1 : ((nb M : Int) - prec - 1).toNat = k := by omega
        have e2 : ((nb M : Int) - prec).toNat = k + 1 := by omega
        have e3 : Int.toNat 1 = 1 := rfl
        have e4 : ((nb M : Int) - prec) = ((nb M - prec : Nat) : Int) := by omega
        have e5 : Builtin.Int.intBits 1 = 1 := by decide
        have md : ∀ (T : Nat) (man : Int), man = (T : Int) → T = rmag r sg M (k + 1) → man = (T : Int) ∧ T ≠ 0 ∧ (T = 2 ^ tz T ∨ (prec : Int) = nb T) ∧ rnorm r sg prec M e = nrmN sg T (e + ((nb M : Int) - prec)) :=
          fun T man hm hT => And.intro hm (mid (e := e) hlt hp1 (hsub ▸ hT) (congrArg (e + ·) e4))
        simp only [e1, e2, e3, fdiv_pow, bitAnd_one, bitAnd_two, bitAnd_mask, neg_fdiv_neg, e5]
        refine ⟨fun hr0 => ⟨by omega, fun b1 => ⟨fun b2 => ⟨by omega, by omega, fun b3 => ⟨by omega, _, _, _, _, _, _, rfl, md (M / 2 ^ k / 2 + 1) _ ?_ ?_⟩, fun b3 => ⟨by omega, _, _, _, _, _, _, rfl, md (M / 2 ^ k / 2) _ ?_ ?_⟩⟩, fun b2 => ⟨by omega, _, _, _, _, _, _, rfl, md (M / 2 ^ k / 2 + 1) _ ?_ ?_⟩⟩,
          fun b1 => ⟨by omega, _, _, _, _, _, _, rfl, md (M / 2 ^ k / 2) _ ?_ ?_⟩⟩, fun hr0 => ?_⟩
        · rfl
        · rw [hr0, rmag_n, if_pos ⟨by omega, .inr (by omega)⟩]
        · rfl
        · rw [hr0, rmag_n, if_neg]; rintro ⟨_, q | q⟩ <;> omega
        · rfl
        · rw [hr0, rmag_n, if_pos ⟨by omega, .inl (by omega)⟩]
        · rfl
        · rw [hr0, rmag_n, if_neg]; rintro ⟨q, _⟩; omega
        · have cut : cuts r sg = true → ∀ x y : Option PV, (0 : Int) ≤ (nb M : Int) - prec ∧ ∃ (man E B : Int) (T : Nat) (x' y' : Option PV), ([some (.d (.int sg)), some (.d (.int ((M / 2 ^ (k + 1) : Nat) : Int))), some (.d (.int (e + ((nb M : Int) - prec)))), some (.d (.int prec)), some (.d (.int prec)), some (.d (.str r)), x, y, none, none, none, none, none] : Env1) = [some (.d (.int sg)), some (.d (.int man)), some (.d (.int E)), some (.d (.int B)), some (.d (.int prec)), some (.d (.str r)), x', y', none, none, none, none, none] ∧ man = (T : Int) ∧
              T ≠ 0 ∧ (T = 2 ^ tz T ∨ B = nb T) ∧ rnorm r sg prec M e = nrmN sg T E :=
            fun hc x y => ⟨by omega, _, _, _, _, _, _, rfl, md _ _ rfl (rmag_cut hr0 hc).symm⟩
          have up : cuts r sg = false → ∀ x y : Option PV, (0 : Int) ≤ (nb M : Int) - prec ∧ ∃ (man E B : Int) (T : Nat) (x' y' : Option PV), ([some (.d (.int sg)), some (.d (.int (((M + (2 ^ (k + 1) - 1)) / 2 ^ (k + 1) : Nat) : Int))), some (.d (.int (e + ((nb M : Int) - prec)))), some (.d (.int prec)), some (.d (.int prec)), some (.d (.str r)), x, y, none, none, none, none, none] : Env1) = [some (.d (.int sg)), some (.d (.int man)), some (.d (.int E)), some (.d (.int B)), some (.d (.int prec)), some (.d (.str r)), x', y', none, none, none, none, none] ∧ man = (T : Int) ∧
              T ≠ 0 ∧ (T = 2 ^ tz T ∨ B = nb T) ∧ rnorm r sg prec M e = nrmN sg T E :=
            fun hc x y => ⟨by omega, _, _, _, _, _, _, rfl, md _ _ rfl (rmag_up hr0 hc).symm⟩
          clear md h tail
          rcases hr with rfl | rfl | rfl | rfl | rfl
          · exact absurd rfl hr0
          · refine .inl ⟨rfl, ?_⟩
            rcases hs with rfl | rfl
            · walk_at "vc"; exact ⟨fun _ => cut (by decide) _ _, fun q => absurd q (by decide)⟩
            · walk_at "vc"; exact ⟨fun q => absurd trivial q, up (by decide) _ _⟩
          · refine .inr (.inl ⟨rfl, ?_⟩)
            rcases hs with rfl | rfl
            · walk_at "vc"; exact ⟨fun q => absurd trivial q, up (by decide) _ _⟩
            · walk_at "vc"; exact ⟨fun _ => cut (by decide) _ _, fun q => absurd q (by decide)⟩
          · refine .inr (.inr (.inl ⟨rfl, ?_⟩))
            rcases hs with rfl | rfl
            · walk_at "vc"; exact ⟨fun _ => cut (by decide) _ _, fun q => absurd q (by decide)⟩
            · walk_at "vc"; exact ⟨fun _ => cut (by decide) _ _, fun q => absurd q (by decide)⟩
          · refine .inr (.inr (.inr ⟨rfl, ?_⟩))
            rcases hs with rfl | rfl
            · walk_at "vc"; exact ⟨fun q => absurd trivial q, up (by decide) _ _⟩
            · walk_at "vc"; exact ⟨fun q => absurd trivial q, up (by decide) _ _⟩
      · refine ⟨_, _, _, M, _, _, rfl, rfl, hM0, .inr rfl, rnorm_small (by omega)⟩
      · rintro ρ' ⟨man, E, B, T, x, y, rfl, rfl, h1, h2, h3⟩
        walk_at "vc"
        obtain ⟨t1, t2⟩ := tail T E B h1 h2 h3
        refine ⟨fun q => ?_, fun q => ?_⟩
        · refine ⟨T, rfl, ?_⟩
          walk_at "vc"
          exact ⟨by omega, t1 q⟩
        · exact t2 q
end
end Mine

-- ---------- Fn2 ----------
set_option maxRecDepth 100000
set_option autoImplicit false
set_option linter.all false
set_option Elab.async false
set_option maxHeartbeats 4000000
namespace Mine
open PySem PySem.W PyProof.Rows PySem.Calls PySem.Spec

local macro_rules | `(tactic| walk_at "vc") => `(tactic| simp only [init, List.map_cons, List.map_nil, List.cons_append, List.nil_append, List.append_nil, List.length_cons, List.length_nil, List.replicate, List.replicate_zero, List.replicate_succ, List.reverse_cons, List.reverse_nil,
  Nat.reduceAdd, Nat.reduceSub, v_add, v_sub, v_mul, v_div, v_mod, v_shl, v_shr, v_and, v_xor, v_pow, v_iadd, v_isub, v_imul, v_ishl, v_ishr, v_ixor, v_tint, v_tbool, v_tnone, v_usub, v_unot, v_lt, v_le, v_gt, v_ge, v_eqi, v_nei, v_eqs, v_neb, v_eq4, v_in4, v_eq2,
  v_bits, v_get0, v_getS, v_set0, v_setS, v_all0, v_allS, v_sets0, v_setsS, v_nsets0, v_nsetsS, v_unt, v_unl, v_itl, v_it0, v_it1, v_it2, v_it3, v_int, v_abs, v_len, v_divmod, v_isint, v_shift,
  Bool.not_eq_true', Bool.not_eq_false', bne_iff_ne, ne_eq, bne_eq_false_iff_eq, Bool.not_true, Bool.not_false, decide_eq_true_eq, decide_eq_false_iff_not, true_and, and_true, forall_const, reduceCtorEq, false_implies, true_implies])
-- fsd: the plain goals of FS.def
local macro_rules | `(tactic| walk_at "fsd") => `(tactic| (
  (case ho => exact rfl)
  (case hcd => exact rfl)
  (case e1 => exact rfl)
  (case e2 => decide)
  (case e3 => decide)
  (case e10 => decide)
  (case e4 => decide)
  (case e5 => decide)
  (case e6 => exact rfl)
  (case e7 => exact rfl)
  (case e8 => exact rfl)
  (case e9 => exact rfl)
  skip))

section
variable {w : World} {p : Program} {loose : List Str} {mg mb : Str → Option Value} {n : Nat} {cs : Scope}

theorem fs_normalize_6 : FS (DD w p loose mg mb) (.ref 44) 3 C_norm := by
  refine' FS.def (ps := [Str.ofString "sign", Str.ofString "man", Str.ofString "exp", Str.ofString "bc", Str.ofString "prec", Str.ofString "rnd"]) (k := 6) (dfl := []) ?ho ?hcd ?hb ?e1 ?e2 ?e3 ?e10 ?e4 ?e5 ?e6 ?e7 ?e8 ?hS ?e9 ?hl ?hC
  walk_at "fsd"
  case hb => intro s vs G hl; match vs, hl with
    | [_, _, _, _, _, _], _ => exact ⟨[], .of_eq rfl, trivial⟩
  case hS => exact (SS.cons (S1.assert (ST.cmp (SE.varL 3 rfl) (SE.bits (SE.varL 1 rfl) (fun _ => ⟨_, rfl⟩)) rfl))
 (SS.cons (S1.assert (ST.cmp (SE.varL 1 rfl) SE.int rfl))
 (SS.cons (S1.ret (SE.callN (SE.globF 6 g_unormalize rfl) rfl fs_unormalize_6 (by decide) (SA.cons (SE.varL 0 rfl) (SA.cons (SE.varL 1 rfl) (SA.cons (SE.varL 2 rfl) (SA.cons (SE.varL 3 rfl) (SA.cons (SE.varL 4 rfl) (SA.cons (SE.varL 5 rfl) SA.nil (fun _ => rfl)) (fun _ => rfl)) (fun _ => rfl)) (fun _ => rfl)) (fun _ => rfl)) (fun _ => rfl)) (.inr k_unormalize) (fun _ => rfl) (NoStar.cons (fun _ => rfl) (NoStar.cons (fun _ => rfl) (NoStar.cons (fun _ => rfl) (NoStar.cons (fun _ => rfl) (NoStar.cons (fun _ => rfl) NoStar.nil)))))))
 SS.nil)))
  case hl => rintro pvs P ⟨_, _, _, _, _, rfl, _⟩; rfl
  case hC =>
    rintro pvs P ⟨sg, M, e, prec, r, rfl, hh⟩
    walk_at "vc"
    refine ⟨by rw [intBits_nat], by omega, sg, M, e, prec, r, rfl, hh⟩

def C_fme (pvs : List PV) (P : PV → Prop) : Prop := ∃ (N e : Int) (r : Str), pvs = [.d (.int N), .d (.int e), .d (.int 0), .d (.str r)] ∧ P (.d (nrm N e))
theorem fs_from_man_exp_4 : FS (DD w p loose mg mb) (.ref 52) 4 C_fme := by
  refine' FS.def (ps := [Str.ofString "man", Str.ofString "exp", Str.ofString "prec", Str.ofString "rnd"]) (k := 4) (dfl := []) ?ho ?hcd ?hb ?e1 ?e2 ?e3 ?e10 ?e4 ?e5 ?e6 ?e7 ?e8 ?hS ?e9 ?hl ?hC
  walk_at "fsd"
  case hb => intro s vs G hl; match vs, hl with
    | [_, _, _, _], _ => exact ⟨[], binds_K G.X rfl rfl rfl rfl rfl, trivial⟩
  case hS => exact (SS.cons (S1.ite (ST.not (ST.val (SE.callN (SE.globB 7 g_isinstance b_isinstance (by decide) rfl) rfl FS.isint (Nat.zero_le _) (SA.cons (SE.varL 0 rfl) (SA.cons (SE.globB 8 g_int b_int (by decide) rfl) SA.nil (fun _ => rfl)) (fun _ => rfl)) (.inl (fun _ q => nomatch q)) (fun _ => rfl) (NoStar.cons (fun _ => rfl) NoStar.nil)) (fun _ _ => rfl))) (SS.cons S1.raise
 SS.nil) SS.nil)
 (SS.cons (S1.assign (i := 4) SE.int rfl (.inl rfl) (fun _ => rfl))
 (SS.cons (S1.cut (S1.ite (ST.cmp (SE.varL 0 rfl) SE.int rfl) (SS.cons (S1.assign (i := 4) SE.int rfl (.inl rfl) (fun _ => rfl))
 (SS.cons (S1.assign (i := 0) (SE.un (SE.varL 0 rfl)) rfl (.inl rfl) (fun _ => rfl))
 SS.nil)) SS.nil))
 (SS.cons (S1.assign (i := 5) (SE.bits (SE.varL 0 rfl) (fun _ => ⟨_, rfl⟩)) rfl (.inl rfl) (fun _ => rfl))
 (SS.cons (S1.ite (ST.not (ST.val (SE.varL 2 rfl) (fun _ _ => rfl))) (SS.cons (S1.ite (ST.not (ST.val (SE.varL 0 rfl) (fun _ _ => rfl))) (SS.cons (S1.ret (SE.glob4 10 g_fzero rd_fzero rfl))
 SS.nil) SS.nil)
 (SS.cons (S1.ite (ST.not (ST.val (SE.bin (SE.varL 0 rfl) SE.int) (fun _ _ => rfl))) (SS.cons (S1.ite (ST.val (SE.bin (SE.varL 0 rfl) SE.int) (fun _ _ => rfl)) (SS.cons (S1.ret (SE.tuple (SA.cons (SE.varL 4 rfl) (SA.cons (SE.bin (SE.varL 0 rfl) SE.int) (SA.cons (SE.bin (SE.varL 1 rfl) SE.int) (SA.cons (SE.bin (SE.varL 5 rfl) SE.int) SA.nil (fun _ => rfl)) (fun _ => rfl)) (fun _ => rfl)) (fun _ => rfl)) (by decide)))
 SS.nil) SS.nil)
 (SS.cons (S1.assign (i := 6) (SE.callN (SE.globF 11 g_trailing rfl) rfl fs_trailing_1 (by decide) (SA.cons (SE.varL 0 rfl) SA.nil (fun _ => rfl)) (.inr k_trailing) (fun _ => rfl) NoStar.nil) rfl (.inl rfl) (fun _ => rfl))
 (SS.cons (S1.aug (i := 0) (SE.varL 6 rfl) rfl rfl)
 (SS.cons (S1.aug (i := 1) (SE.varL 6 rfl) rfl rfl)
 (SS.cons (S1.aug (i := 5) (SE.varL 6 rfl) rfl rfl)
 SS.nil))))) SS.nil)
 (SS.cons (S1.ret (SE.tuple (SA.cons (SE.varL 4 rfl) (SA.cons (SE.varL 0 rfl) (SA.cons (SE.varL 1 rfl) (SA.cons (SE.varL 5 rfl) SA.nil (fun _ => rfl)) (fun _ => rfl)) (fun _ => rfl)) (fun _ => rfl)) (by decide)))
 SS.nil))) SS.nil)
 (SS.cons (S1.ret (SE.callN (SE.globF 12 g_normalize rfl) rfl fs_normalize_6 (by decide) (SA.cons (SE.varL 4 rfl) (SA.cons (SE.varL 0 rfl) (SA.cons (SE.varL 1 rfl) (SA.cons (SE.varL 5 rfl) (SA.cons (SE.varL 2 rfl) (SA.cons (SE.varL 3 rfl) SA.nil (fun _ => rfl)) (fun _ => rfl)) (fun _ => rfl)) (fun _ => rfl)) (fun _ => rfl)) (fun _ => rfl)) (.inr k_normalize) (fun _ => rfl) (NoStar.cons (fun _ => rfl) (NoStar.cons (fun _ => rfl) (NoStar.cons (fun _ => rfl) (NoStar.cons (fun _ => rfl) (NoStar.cons (fun _ => rfl) NoStar.nil)))))))
 SS.nil))))))
  case hl => rintro pvs P ⟨_, _, _, rfl, _⟩; rfl
  case hC =>
    rintro pvs P ⟨N, e, r, rfl, h⟩
    walk_at "vc"
    refine ⟨fun ρ' => ∃ (sg man : Int) (M : Nat), ρ' = [some (.d (.int man)), some (.d (.int e)), some (.d (.int 0)), some (.d (.str r)), some (.d (.int sg)), none, none, none, none, none, none, none, none] ∧ man = (M : Int) ∧ nrm N e = nrmN sg M e,
      ⟨fun q => ⟨_, _, N.natAbs, rfl, by omega, nrm_neg q⟩, fun q => ⟨_, _, N.natAbs, rfl, by omega, nrm_nn q⟩⟩, ?_⟩
    rintro ρ' ⟨sg, man, M, rfl, rfl, hM⟩
    rw [hM] at h
    walk_at "vc"
    rw [bitAnd_one, bitAnd_two, intBits_nat]
    refine ⟨⟨fun q => ?_, fun q => ⟨fun q1 => ⟨fun q2 => ?_, fun q2 => ?_⟩, fun q1 => ?_⟩⟩, by first | (intro q; exact absurd trivial q) | (intro q; exact absurd rfl q)⟩
    · obtain rfl : M = 0 := by omega
      rw [nrmN_zero] at h; exact h
    · rw [nrmN_tup (by omega), tz_two (by omega) q2] at h
      exact ⟨by decide, by rw [show Int.toNat 1 = 1 from rfl, fdiv_pow]; exact h⟩
    · refine ⟨M, rfl, ?_⟩
      walk_at "vc"
      rw [nrmN_tup (by omega)] at h
      exact ⟨by omega, by rw [Int.toNat_natCast, fdiv_pow]; exact h⟩
    · rw [nrmN_tup (by omega), tz_odd (by omega)] at h
      simpa using h

def C_from_int (pvs : List PV) (P : PV → Prop) : Prop := ∃ N : Int, pvs = [.d (.int N)] ∧ P (.d (nrm N 0))
theorem fs_from_int_1 : FS (DD w p loose mg mb) (.ref 60) 5 C_from_int := by
  refine' FS.def (ps := [Str.ofString "n", Str.ofString "prec", Str.ofString "rnd"]) (k := 1) (dfl := [.d (.int 0), .d (.str (Str.ofString "d"))]) ?ho ?hcd ?hb ?e1 ?e2 ?e3 ?e10 ?e4 ?e5 ?e6 ?e7 ?e8 ?hS ?e9 ?hl ?hC
  walk_at "fsd"
  case hb => intro s vs G hl; match vs, hl with
    | [_], _ => exact ⟨[.int 0 288, .str (Str.ofString "d") 210], binds_K G.X rfl rfl rfl rfl rfl, ⟨_, rfl⟩, ⟨_, rfl⟩, trivial⟩
  case hS => exact (SS.cons (S1.ret (SE.callN (SE.globF 3 g_from_man_exp rfl) rfl fs_from_man_exp_4 (by decide) (SA.cons (SE.callN (SE.globB 4 g_int b_int (by decide) rfl) rfl FS.int (Nat.zero_le _) (SA.cons (SE.varL 0 rfl) SA.nil (fun _ => rfl)) (.inl (fun _ q => nomatch q)) (fun _ => rfl) NoStar.nil) (SA.cons SE.int (SA.cons (SE.varL 1 rfl) (SA.cons (SE.varL 2 rfl) SA.nil (fun _ => rfl)) (fun _ => rfl)) (fun _ => rfl)) (fun _ => rfl)) (.inr k_from_man_exp) (fun _ => rfl) (NoStar.cons (fun _ => rfl) (NoStar.cons (fun _ => rfl) (NoStar.cons (fun _ => rfl) NoStar.nil)))))
 SS.nil)
  case hl => rintro pvs P ⟨_, rfl, _⟩; rfl
  case hC =>
    rintro pvs P ⟨N, rfl, h⟩
    walk_at "vc"
    exact ⟨N, 0, _, rfl, h⟩
end
end Mine

-- ---------- Fn3 ----------
set_option maxRecDepth 100000
set_option autoImplicit false
set_option linter.all false
set_option Elab.async false
set_option maxHeartbeats 4000000
namespace Mine
open PySem PySem.W PyProof.Rows PySem.Calls PySem.Spec

local macro_rules | `(tactic| walk_at "vc") => `(tactic| simp only [init, List.map_cons, List.map_nil, List.cons_append, List.nil_append, List.append_nil, List.length_cons, List.length_nil, List.replicate, List.replicate_zero, List.replicate_succ, List.reverse_cons, List.reverse_nil,
  Nat.reduceAdd, Nat.reduceSub, v_add, v_sub, v_mul, v_div, v_mod, v_shl, v_shr, v_and, v_xor, v_pow, v_iadd, v_isub, v_imul, v_ishl, v_ishr, v_ixor, v_tint, v_tbool, v_tnone, v_usub, v_unot, v_lt, v_le, v_gt, v_ge, v_eqi, v_nei, v_eqs, v_neb, v_eq4, v_in4, v_eq2,
  v_bits, v_get0, v_getS, v_set0, v_setS, v_all0, v_allS, v_sets0, v_setsS, v_nsets0, v_nsetsS, v_unt, v_unl, v_itl, v_it0, v_it1, v_it2, v_it3, v_int, v_abs, v_len, v_divmod, v_isint, v_shift,
  Bool.not_eq_true', Bool.not_eq_false', bne_iff_ne, ne_eq, bne_eq_false_iff_eq, Bool.not_true, Bool.not_false, decide_eq_true_eq, decide_eq_false_iff_not, true_and, and_true, forall_const, reduceCtorEq, false_implies, true_implies])
-- fsd: the plain goals of FS.def
local macro_rules | `(tactic| walk_at "fsd") => `(tactic| (
  (case ho => exact rfl)
  (case hcd => exact rfl)
  (case e1 => exact rfl)
  (case e2 => decide)
  (case e3 => decide)
  (case e10 => decide)
  (case e4 => decide)
  (case e5 => decide)
  (case e6 => exact rfl)
  (case e7 => exact rfl)
  (case e8 => exact rfl)
  (case e9 => exact rfl)
  skip))

section
variable {w : World} {p : Program} {loose : List Str} {mg mb : Str → Option Value} {n : Nat} {cs : Scope}

def C_trat (pvs : List PV) (P : PV → Prop) : Prop := ∃ (N e : Int), pvs = [.d (nrm N e)] ∧ -100000 ≤ e ∧ e ≤ 100000 ∧ nb N.natAbs ≤ 100000 ∧
  ∀ (a : Int) (B : Nat), nrm N e = nrm a (-(B : Int)) → (B = 0 ∨ a % 2 = 1) → P (.d (.tuple [.int a, .int (2 ^ B)]))
theorem fs_to_rational_1 : FS (DD w p loose mg mb) (.ref 75) 1 C_trat := by
  refine' FS.def (ps := [Str.ofString "s"]) (k := 1) (dfl := []) ?ho ?hcd ?hb ?e1 ?e2 ?e3 ?e10 ?e4 ?e5 ?e6 ?e7 ?e8 ?hS ?e9 ?hl ?hC
  walk_at "fsd"
  case hb => intro s vs G hl; match vs, hl with
    | [_], _ => exact ⟨[], .of_eq rfl, trivial⟩
  case hS => exact (SS.cons (S1.ite (ST.cmp (SE.varL 0 rfl) (SE.glob4 5 g_fnan rd_fnan rfl) rfl) (SS.cons S1.raise
 SS.nil) SS.nil)
 (SS.cons (S1.ite (ST.cmp (SE.varL 0 rfl) (SE.tuple (SA.cons (SE.glob4 7 g_finf rd_finf rfl) (SA.cons (SE.glob4 8 g_fninf rd_fninf rfl) SA.nil (fun _ => rfl)) (fun _ => rfl)) (by decide)) rfl) (SS.cons S1.raise
 SS.nil) SS.nil)
 (SS.cons (S1.unpack (SE.varL 0 rfl) (Tgts.cons (i := 1) rfl (.inl rfl) (Tgts.cons (i := 2) rfl (.inl rfl) (Tgts.cons (i := 3) rfl (.inl rfl) (Tgts.cons (i := 4) rfl (.inl rfl) Tgts.nil)))) (fun _ => rfl) (fun _ => rfl))
 (SS.cons (S1.ite (ST.val (SE.varL 1 rfl) (fun _ _ => rfl)) (SS.cons (S1.assign (i := 2) (SE.un (SE.varL 2 rfl)) rfl (.inl rfl) (fun _ => rfl))
 SS.nil) SS.nil)
 (SS.cons (S1.ite (ST.cmp (SE.varL 3 rfl) SE.int rfl) (SS.cons (S1.ret (SE.tuple (SA.cons (SE.bin (SE.varL 2 rfl) (SE.bin SE.int (SE.varL 3 rfl))) (SA.cons (SE.callN (SE.globB 10 g_int b_int (by decide) rfl) rfl FS.int (Nat.zero_le _) (SA.cons SE.int SA.nil (fun _ => rfl)) (.inl (fun _ q => nomatch q)) (fun _ => rfl) NoStar.nil) SA.nil (fun _ => rfl)) (fun _ => rfl)) (by decide)))
 SS.nil) (SS.cons (S1.ret (SE.tuple (SA.cons (SE.varL 2 rfl) (SA.cons (SE.bin (SE.callN (SE.globB 10 g_int b_int (by decide) rfl) rfl FS.int (Nat.zero_le _) (SA.cons SE.int SA.nil (fun _ => rfl)) (.inl (fun _ q => nomatch q)) (fun _ => rfl) NoStar.nil) (SE.un (SE.varL 3 rfl))) SA.nil (fun _ => rfl)) (fun _ => rfl)) (by decide)))
 SS.nil))
 SS.nil)))))
  case hl => rintro pvs P ⟨_, _, rfl, _⟩; rfl
  case hC =>
    rintro pvs P ⟨N, e, rfl, b1, b2, b3, h⟩
    rcases nrm_cases N e with ⟨h0, hq⟩ | ⟨h0, sg, M, z, hs, hM, hN, hq⟩
    · have := h 0 0 (by rw [hq, nrm_zero]) (.inl rfl)
      rw [hq]; unfold fz
      walk_at "vc"
      have ok : ∀ x : Int, IntMulOk 0 x := fun x => IntMulOk.of_left (by decide)
      simpa [intBits_one, ok] using this
    · have hz : z ≤ nb N.natAbs := by
        rw [hN, sgn_natAbs, nb_shl z (by omega)]; omega
      have hMb : nb M ≤ 100000 := by
        have : nb N.natAbs = nb M + z := by rw [hN, sgn_natAbs, nb_shl z (by omega)]
        omega
      have hM0 : ¬ (M : Int) = 0 := by omega
      have hmk : mk sg M (e + z) = nrm (sgn sg M) (e + z) := by rw [nrm_sgn hs, mk_odd hM]
      have hge : ∀ v : Int, v = sgn sg M → 0 ≤ e + (z : Int) → P (.d (.tuple [.int (v * (1 * 2 ^ (e + (z : Int)).toNat)), .int 1])) := by
        rintro v rfl q
        obtain ⟨k, hk⟩ : ∃ k : Nat, e + (z : Int) = k := ⟨_, (Int.toNat_of_nonneg q).symm⟩
        have := h (sgn sg M * 2 ^ k) 0 (by rw [hq, hmk, hk, show (-((0 : Nat) : Int)) = 0 from rfl, nrm_scale]; congr 1; omega) (.inl rfl)
        rw [Int.one_mul, hk, Int.toNat_natCast]; exact this
      have hlt : ∀ v : Int, v = sgn sg M → ¬ 0 ≤ e + (z : Int) → P (.d (.tuple [.int v, .int (1 * 2 ^ (-(e + (z : Int))).toNat)])) := by
        rintro v rfl q
        have := h (sgn sg M) (-(e + (z : Int))).toNat (by rw [hq, hmk]; congr 1; omega) (.inr (sgn_odd hM))
        rw [Int.one_mul]; exact this
      rw [hq]; unfold mk
      walk_at "vc"
      have hb : ∀ v : Int, v = sgn sg M → 0 ≤ e + (z : Int) → IntMulOk v (1 * 2 ^ (e + (z : Int)).toNat) := by
        rintro v rfl q
        refine IntMulOk.of_bits ?_ ?_
        · rw [intBits_abs, sgn_natAbs]; exact Nat.le_trans hMb (by decide)
        · rw [intBits_pow]; have : (2 : Nat) ^ 20 = 1048576 := by decide
          omega
      rw [intBits_one]
      refine ⟨fun q => by omega, fun _ => ⟨fun q => by omega, fun _ => ⟨fun q => ⟨fun q1 => ⟨q1, by omega, hb _ ?_ q1, hge _ ?_ q1⟩, fun q1 => ⟨by omega, by omega, hlt _ ?_ q1⟩⟩, fun q => ⟨fun q1 => ⟨q1, by omega, hb _ ?_ q1, hge _ ?_ q1⟩, fun q1 => ⟨by omega, by omega, hlt _ ?_ q1⟩⟩⟩⟩⟩
      all_goals (rcases hs with rfl | rfl <;> first | exact absurd rfl q | exact absurd q (by decide) | exact sgn_zero.symm | exact sgn_one.symm)

def C_sign (pvs : List PV) (P : PV → Prop) : Prop := ∃ (N e : Int), pvs = [.d (nrm N e)] ∧ P (.d (.int (Int.sign N)))
theorem fs_mpf_sign_1 : FS (DD w p loose mg mb) (.ref 119) 1 C_sign := by
  refine' FS.def (ps := [Str.ofString "s"]) (k := 1) (dfl := []) ?ho ?hcd ?hb ?e1 ?e2 ?e3 ?e10 ?e4 ?e5 ?e6 ?e7 ?e8 ?hS ?e9 ?hl ?hC
  walk_at "fsd"
  case hb => intro s vs G hl; match vs, hl with
    | [_], _ => exact ⟨[], .of_eq rfl, trivial⟩
  case hS => exact (SS.cons (S1.unpack (SE.varL 0 rfl) (Tgts.cons (i := 1) rfl (.inl rfl) (Tgts.cons (i := 2) rfl (.inl rfl) (Tgts.cons (i := 3) rfl (.inl rfl) (Tgts.cons (i := 4) rfl (.inl rfl) Tgts.nil)))) (fun _ => rfl) (fun _ => rfl))
 (SS.cons (S1.ite (ST.not (ST.val (SE.varL 2 rfl) (fun _ _ => rfl))) (SS.cons (S1.ite (ST.cmp (SE.varL 0 rfl) (SE.glob4 5 g_finf rd_finf rfl) rfl) (SS.cons (S1.ret SE.int)
 SS.nil) SS.nil)
 (SS.cons (S1.ite (ST.cmp (SE.varL 0 rfl) (SE.glob4 6 g_fninf rd_fninf rfl) rfl) (SS.cons (S1.ret (SE.un SE.int))
 SS.nil) SS.nil)
 (SS.cons (S1.ret SE.int)
 SS.nil))) SS.nil)
 (SS.cons (S1.ret (SE.bin (SE.un SE.int) (SE.varL 1 rfl)))
 SS.nil)))
  case hl => rintro pvs P ⟨_, _, rfl, _⟩; rfl
  case hC =>
    rintro pvs P ⟨N, e, rfl, h⟩
    rcases nrm_cases N e with ⟨h0, hq⟩ | ⟨h0, sg, M, z, hs, hM, hN, hq⟩
    · rw [hq]; unfold fz
      walk_at "vc"
      subst h0
      simpa using h
    · have hM0 : ¬ (M : Int) = 0 := by omega
      have hp := Nat.two_pow_pos z
      have hMp : 0 < M * 2 ^ z := Nat.mul_pos (by omega) hp
      rw [hq]; unfold mk
      walk_at "vc"
      refine ⟨fun q => absurd q hM0, fun _ => ?_⟩
      rcases hs with rfl | rfl
      · rw [hN, sgn_zero, Int.sign_eq_one_of_pos (by omega)] at h
        exact ⟨by decide, by decide, by decide, h⟩
      · rw [hN, sgn_one, Int.sign_eq_neg_one_of_neg (by omega)] at h
        exact ⟨by decide, by decide, by decide, h⟩

def C_abs4 (pvs : List PV) (P : PV → Prop) : Prop := ∃ (N e : Int), pvs = [.d (nrm N e)] ∧ P (.d (nrm (N.natAbs : Int) e))
theorem fs_mpf_abs_1 : FS (DD w p loose mg mb) (.ref 112) 4 C_abs4 := by
  refine' FS.def (ps := [Str.ofString "s", Str.ofString "prec", Str.ofString "rnd"]) (k := 1) (dfl := [.d (.int 0), .d (.str (Str.ofString "d"))]) ?ho ?hcd ?hb ?e1 ?e2 ?e3 ?e10 ?e4 ?e5 ?e6 ?e7 ?e8 ?hS ?e9 ?hl ?hC
  walk_at "fsd"
  case hb => intro s vs G hl; match vs, hl with
    | [_], _ => exact ⟨[.int 0 368, .str (Str.ofString "d") 210], binds_K G.X rfl rfl rfl rfl rfl, ⟨_, rfl⟩, ⟨_, rfl⟩, trivial⟩
  case hS => exact (SS.cons (S1.unpack (SE.varL 0 rfl) (Tgts.cons (i := 3) rfl (.inl rfl) (Tgts.cons (i := 4) rfl (.inl rfl) (Tgts.cons (i := 5) rfl (.inl rfl) (Tgts.cons (i := 6) rfl (.inl rfl) Tgts.nil)))) (fun _ => rfl) (fun _ => rfl))
 (SS.cons (S1.ite (ST.and2 (ST.not (ST.val (SE.varL 4 rfl) (fun _ _ => rfl))) (ST.val (SE.varL 5 rfl) (fun _ _ => rfl))) (SS.cons (S1.ite (ST.cmp (SE.varL 0 rfl) (SE.glob4 7 g_fninf rd_fninf rfl) rfl) (SS.cons (S1.ret (SE.glob4 8 g_finf rd_finf rfl))
 SS.nil) SS.nil)
 (SS.cons (S1.ret (SE.varL 0 rfl))
 SS.nil)) SS.nil)
 (SS.cons (S1.ite (ST.not (ST.val (SE.varL 1 rfl) (fun _ _ => rfl))) (SS.cons (S1.ite (ST.val (SE.varL 3 rfl) (fun _ _ => rfl)) (SS.cons (S1.ret (SE.tuple (SA.cons SE.int (SA.cons (SE.varL 4 rfl) (SA.cons (SE.varL 5 rfl) (SA.cons (SE.varL 6 rfl) SA.nil (fun _ => rfl)) (fun _ => rfl)) (fun _ => rfl)) (fun _ => rfl)) (by decide)))
 SS.nil) SS.nil)
 (SS.cons (S1.ret (SE.varL 0 rfl))
 SS.nil)) SS.nil)
 (SS.cons (S1.ret (SE.callN (SE.globF 9 g_normalize rfl) rfl fs_normalize_6 (by decide) (SA.cons SE.int (SA.cons (SE.varL 4 rfl) (SA.cons (SE.varL 5 rfl) (SA.cons (SE.varL 6 rfl) (SA.cons (SE.varL 1 rfl) (SA.cons (SE.varL 2 rfl) SA.nil (fun _ => rfl)) (fun _ => rfl)) (fun _ => rfl)) (fun _ => rfl)) (fun _ => rfl)) (fun _ => rfl)) (.inr k_normalize) (fun _ => rfl) (NoStar.cons (fun _ => rfl) (NoStar.cons (fun _ => rfl) (NoStar.cons (fun _ => rfl) (NoStar.cons (fun _ => rfl) (NoStar.cons (fun _ => rfl) NoStar.nil)))))))
 SS.nil))))
  case hl => rintro pvs P ⟨_, _, rfl, _⟩; rfl
  case hC =>
    rintro pvs P ⟨N, e, rfl, h⟩
    rcases nrm_cases N e with ⟨h0, hq⟩ | ⟨h0, sg, M, z, hs, hM, hN, hq⟩
    · subst h0
      rw [show ((Int.natAbs 0 : Nat) : Int) = 0 from rfl, nrm_zero] at h
      rw [hq]; unfold fz at h ⊢
      walk_at "vc"
      simpa using h
    · have hM0 : ¬ (M : Int) = 0 := by omega
      have e1 : nrm (N.natAbs : Int) e = mk 0 M (e + z) := by
        rw [hN, sgn_natAbs]
        have : ((M * 2 ^ z : Nat) : Int) = (M : Int) * 2 ^ z := by push_cast; rfl
        rw [this, nrm_scale, ← sgn_zero, nrm_sgn (.inl rfl), mk_odd hM]
      rw [e1] at h
      rw [hq]; unfold mk at h ⊢
      walk_at "vc"
      rcases hs with rfl | rfl
      · simpa [show ¬ M = 0 by omega] using h
      · simpa [show ¬ M = 0 by omega] using h

def C_neg4 (pvs : List PV) (P : PV → Prop) : Prop := ∃ (N e : Int), pvs = [.d (nrm N e)] ∧ P (.d (nrm (-N) e))
theorem fs_mpf_neg_1 : FS (DD w p loose mg mb) (.ref 104) 4 C_neg4 := by
  refine' FS.def (ps := [Str.ofString "s", Str.ofString "prec", Str.ofString "rnd"]) (k := 1) (dfl := [.d (.int 0), .d (.str (Str.ofString "d"))]) ?ho ?hcd ?hb ?e1 ?e2 ?e3 ?e10 ?e4 ?e5 ?e6 ?e7 ?e8 ?hS ?e9 ?hl ?hC
  walk_at "fsd"
  case hb => intro s vs G hl; match vs, hl with
    | [_], _ => exact ⟨[.int 0 354, .str (Str.ofString "d") 210], binds_K G.X rfl rfl rfl rfl rfl, ⟨_, rfl⟩, ⟨_, rfl⟩, trivial⟩
  case hS => exact (SS.cons (S1.unpack (SE.varL 0 rfl) (Tgts.cons (i := 3) rfl (.inl rfl) (Tgts.cons (i := 4) rfl (.inl rfl) (Tgts.cons (i := 5) rfl (.inl rfl) (Tgts.cons (i := 6) rfl (.inl rfl) Tgts.nil)))) (fun _ => rfl) (fun _ => rfl))
 (SS.cons (S1.ite (ST.not (ST.val (SE.varL 4 rfl) (fun _ _ => rfl))) (SS.cons (S1.ite (ST.val (SE.varL 5 rfl) (fun _ _ => rfl)) (SS.cons (S1.ite (ST.cmp (SE.varL 0 rfl) (SE.glob4 7 g_finf rd_finf rfl) rfl) (SS.cons (S1.ret (SE.glob4 8 g_fninf rd_fninf rfl))
 SS.nil) SS.nil)
 (SS.cons (S1.ite (ST.cmp (SE.varL 0 rfl) (SE.glob4 8 g_fninf rd_fninf rfl) rfl) (SS.cons (S1.ret (SE.glob4 7 g_finf rd_finf rfl))
 SS.nil) SS.nil)
 SS.nil)) SS.nil)
 (SS.cons (S1.ret (SE.varL 0 rfl))
 SS.nil)) SS.nil)
 (SS.cons (S1.ite (ST.not (ST.val (SE.varL 1 rfl) (fun _ _ => rfl))) (SS.cons (S1.ret (SE.tuple (SA.cons (SE.bin SE.int (SE.varL 3 rfl)) (SA.cons (SE.varL 4 rfl) (SA.cons (SE.varL 5 rfl) (SA.cons (SE.varL 6 rfl) SA.nil (fun _ => rfl)) (fun _ => rfl)) (fun _ => rfl)) (fun _ => rfl)) (by decide)))
 SS.nil) SS.nil)
 (SS.cons (S1.ret (SE.callN (SE.globF 9 g_normalize rfl) rfl fs_normalize_6 (by decide) (SA.cons (SE.bin SE.int (SE.varL 3 rfl)) (SA.cons (SE.varL 4 rfl) (SA.cons (SE.varL 5 rfl) (SA.cons (SE.varL 6 rfl) (SA.cons (SE.varL 1 rfl) (SA.cons (SE.varL 2 rfl) SA.nil (fun _ => rfl)) (fun _ => rfl)) (fun _ => rfl)) (fun _ => rfl)) (fun _ => rfl)) (fun _ => rfl)) (.inr k_normalize) (fun _ => rfl) (NoStar.cons (fun _ => rfl) (NoStar.cons (fun _ => rfl) (NoStar.cons (fun _ => rfl) (NoStar.cons (fun _ => rfl) (NoStar.cons (fun _ => rfl) NoStar.nil)))))))
 SS.nil))))
  case hl => rintro pvs P ⟨_, _, rfl, _⟩; rfl
  case hC =>
    rintro pvs P ⟨N, e, rfl, h⟩
    rcases nrm_cases N e with ⟨h0, hq⟩ | ⟨h0, sg, M, z, hs, hM, hN, hq⟩
    · subst h0
      rw [Int.neg_zero, nrm_zero] at h
      rw [hq]; unfold fz at h ⊢
      walk_at "vc"
      simpa using h
    · have hM0 : ¬ (M : Int) = 0 := by omega
      have e1 : nrm (-N) e = mk (1 - sg) M (e + z) := by
        have : -N = sgn (1 - sg) M * 2 ^ z := by
          rw [sgn_mul, hN]; rcases hs with rfl | rfl
          · rw [show (1 : Int) - 0 = 1 from rfl, sgn_one, sgn_zero]
          · rw [show (1 : Int) - 1 = 0 from rfl, sgn_one, sgn_zero]; omega
        rw [this, nrm_scale, nrm_sgn (by omega), mk_odd hM]
      rw [e1] at h
      rw [hq]; unfold mk at h ⊢
      walk_at "vc"
      simpa [show ¬ M = 0 by omega] using h

def C_mul0 (pvs : List PV) (P : PV → Prop) : Prop := ∃ (N : Int) (u v : PV), pvs = [.d fz, .d (nrm N 0), u, v] ∧ P (.d fz)
theorem fs_mpf_mul_4 : FS (DD w p loose mg mb) (.ref 143) 4 C_mul0 := by
  refine' FS.def (ps := [Str.ofString "s", Str.ofString "t", Str.ofString "prec", Str.ofString "rnd"]) (k := 4) (dfl := []) ?ho ?hcd ?hb ?e1 ?e2 ?e3 ?e10 ?e4 ?e5 ?e6 ?e7 ?e8 ?hS ?e9 ?hl ?hC
  walk_at "fsd"
  case hb => intro s vs G hl; match vs, hl with
    | [_, _, _, _], _ => exact ⟨[], binds_K G.X rfl rfl rfl rfl rfl, trivial⟩
  case hS => exact (SS.cons (S1.unpack (SE.varL 0 rfl) (Tgts.cons (i := 4) rfl (.inl rfl) (Tgts.cons (i := 5) rfl (.inl rfl) (Tgts.cons (i := 6) rfl (.inl rfl) (Tgts.cons (i := 7) rfl (.inl rfl) Tgts.nil)))) (fun _ => rfl) (fun _ => rfl))
 (SS.cons (S1.unpack (SE.varL 1 rfl) (Tgts.cons (i := 8) rfl (.inl rfl) (Tgts.cons (i := 9) rfl (.inl rfl) (Tgts.cons (i := 10) rfl (.inl rfl) (Tgts.cons (i := 11) rfl (.inl rfl) Tgts.nil)))) (fun _ => rfl) (fun _ => rfl))
 (SS.cons (S1.assign (i := 12) (SE.bin (SE.varL 4 rfl) (SE.varL 8 rfl)) rfl (.inl rfl) (fun _ => rfl))
 (SS.cons (S1.assign (i := 13) (SE.bin (SE.varL 5 rfl) (SE.varL 9 rfl)) rfl (.inl rfl) (fun _ => rfl))
 (SS.cons (S1.ite (ST.val (SE.varL 13 rfl) (fun _ _ => rfl)) (SS.cons (S1.assign (i := 14) (SE.bits (SE.varL 13 rfl) (fun _ => ⟨_, rfl⟩)) rfl (.inl rfl) (fun _ => rfl))
 (SS.cons (S1.ite (ST.val (SE.varL 2 rfl) (fun _ _ => rfl)) (SS.cons (S1.ret (SE.callN (SE.globF 17 g_normalize rfl) rfl fs_normalize_6 (by decide) (SA.cons (SE.varL 12 rfl) (SA.cons (SE.varL 13 rfl) (SA.cons (SE.bin (SE.varL 6 rfl) (SE.varL 10 rfl)) (SA.cons (SE.varL 14 rfl) (SA.cons (SE.varL 2 rfl) (SA.cons (SE.varL 3 rfl) SA.nil (fun _ => rfl)) (fun _ => rfl)) (fun _ => rfl)) (fun _ => rfl)) (fun _ => rfl)) (fun _ => rfl)) (.inr k_normalize) (fun _ => rfl) (NoStar.cons (fun _ => rfl) (NoStar.cons (fun _ => rfl) (NoStar.cons (fun _ => rfl) (NoStar.cons (fun _ => rfl) (NoStar.cons (fun _ => rfl) NoStar.nil)))))))
 SS.nil) (SS.cons (S1.ret (SE.tuple (SA.cons (SE.varL 12 rfl) (SA.cons (SE.varL 13 rfl) (SA.cons (SE.bin (SE.varL 6 rfl) (SE.varL 10 rfl)) (SA.cons (SE.varL 14 rfl) SA.nil (fun _ => rfl)) (fun _ => rfl)) (fun _ => rfl)) (fun _ => rfl)) (by decide)))
 SS.nil))
 SS.nil)) SS.nil)
 (SS.cons (S1.assign (i := 15) (SE.and2 (SE.un (SE.varL 5 rfl)) (SE.varL 6 rfl)) rfl (.inl rfl) (fun _ => rfl))
 (SS.cons (S1.assign (i := 16) (SE.and2 (SE.un (SE.varL 9 rfl)) (SE.varL 10 rfl)) rfl (.inl rfl) (fun _ => rfl))
 (SS.cons (S1.ite (ST.and2 (ST.not (ST.val (SE.varL 15 rfl) (fun _ _ => rfl))) (ST.not (ST.val (SE.varL 16 rfl) (fun _ _ => rfl)))) (SS.cons (S1.ret (SE.glob4 18 g_fzero rd_fzero rfl))
 SS.nil) SS.nil)
 (SS.cons (S1.ite (ST.cmp (SE.glob4 19 g_fnan rd_fnan rfl) (SE.tuple (SA.cons (SE.varL 0 rfl) (SA.cons (SE.varL 1 rfl) SA.nil (fun _ => rfl)) (fun _ => rfl)) (by decide)) rfl) (SS.cons (S1.ret (SE.glob4 19 g_fnan rd_fnan rfl))
 SS.nil) SS.nil)
 (SS.cons (S1.ite (ST.and2 (ST.not (ST.val (SE.varL 9 rfl) (fun _ _ => rfl))) (ST.val (SE.varL 10 rfl) (fun _ _ => rfl))) (SS.cons (S1.swap (names := [Str.ofString "s", Str.ofString "t"]) (SA.cons (SE.varL 1 rfl) (SA.cons (SE.varL 0 rfl) SA.nil (fun _ => rfl)) (fun _ => rfl)) (NAt.cons (i := 1) rfl (.inl rfl) (NAt.cons (i := 0) rfl (.inl rfl) NAt.nil)) rfl (by decide) (fun _ => rfl) (fun _ _ _ _ _ => rfl))
 SS.nil) SS.nil)
 (SS.cons (S1.ite (ST.cmp (SE.varL 1 rfl) (SE.glob4 18 g_fzero rd_fzero rfl) rfl) (SS.cons (S1.ret (SE.glob4 19 g_fnan rd_fnan rfl))
 SS.nil) SS.nil)
 (SS.cons S1.no
 SS.nil))))))))))))
  case hl => rintro pvs P ⟨_, _, _, rfl, _⟩; rfl
  case hC =>
    rintro pvs P ⟨N, u, v, rfl, h⟩
    have ok : ∀ x : Int, IntMulOk 0 x := fun x => IntMulOk.of_left (by decide)
    rcases nrm_cases N 0 with ⟨h0, hq⟩ | ⟨h0, sg, M, z, hs, hM, hN, hq⟩
    · rw [hq]; unfold fz at h ⊢
      walk_at "vc"
      simpa [ok] using h
    · have hM0 : ¬ (M : Int) = 0 := by omega
      rw [hq]; unfold fz at h; unfold fz mk
      walk_at "vc"
      simpa [ok, show ¬ M = 0 by omega] using h
end
end Mine

-- ---------- Fn4 ----------
set_option maxRecDepth 100000
set_option autoImplicit false
set_option linter.all false
set_option Elab.async false
set_option maxHeartbeats 4000000
namespace Mine
open PySem PySem.W PyProof.Rows PySem.Calls PySem.Spec

local macro_rules | `(tactic| walk_at "vc") => `(tactic| simp only [init, List.map_cons, List.map_nil, List.cons_append, List.nil_append, List.append_nil, List.length_cons, List.length_nil, List.replicate, List.replicate_zero, List.replicate_succ, List.reverse_cons, List.reverse_nil,
  Nat.reduceAdd, Nat.reduceSub, v_add, v_sub, v_mul, v_div, v_mod, v_shl, v_shr, v_and, v_xor, v_pow, v_iadd, v_isub, v_imul, v_ishl, v_ishr, v_ixor, v_tint, v_tbool, v_tnone, v_usub, v_unot, v_lt, v_le, v_gt, v_ge, v_eqi, v_nei, v_eqs, v_neb, v_eq4, v_in4, v_eq2,
  v_bits, v_get0, v_getS, v_set0, v_setS, v_all0, v_allS, v_sets0, v_setsS, v_nsets0, v_nsetsS, v_unt, v_unl, v_itl, v_it0, v_it1, v_it2, v_it3, v_int, v_abs, v_len, v_divmod, v_isint, v_shift,
  Bool.not_eq_true', Bool.not_eq_false', bne_iff_ne, ne_eq, bne_eq_false_iff_eq, Bool.not_true, Bool.not_false, decide_eq_true_eq, decide_eq_false_iff_not, true_and, and_true, forall_const, reduceCtorEq, false_implies, true_implies])
-- fsd: the plain goals of FS.def
local macro_rules | `(tactic| walk_at "fsd") => `(tactic| (
  (case ho => exact rfl)
  (case hcd => exact rfl)
  (case e1 => exact rfl)
  (case e2 => decide)
  (case e3 => decide)
  (case e10 => decide)
  (case e4 => decide)
  (case e5 => decide)
  (case e6 => exact rfl)
  (case e7 => exact rfl)
  (case e8 => exact rfl)
  (case e9 => exact rfl)
  skip))

section
variable {w : World} {p : Program} {loose : List Str} {mg mb : Str → Option Value} {n : Nat} {cs : Scope}

def C_muli (pvs : List PV) (P : PV → Prop) : Prop := ∃ (N e : Int) (n prec : Nat), pvs = [.d (nrm N e), .d (.int (n : Int)), .d (.int (prec : Int))] ∧ 0 < n ∧ nb N.natAbs + nb n ≤ prec ∧ prec ≤ 100000 ∧ P (.d (nrm (N * n) e))
theorem fs_mpf_mul_int_3 : FS (DD w p loose mg mb) (.ref 151) 6 C_muli := by
  refine' FS.def (ps := [Str.ofString "s", Str.ofString "n", Str.ofString "prec", Str.ofString "rnd"]) (k := 3) (dfl := [.d (.str (Str.ofString "d"))]) ?ho ?hcd ?hb ?e1 ?e2 ?e3 ?e10 ?e4 ?e5 ?e6 ?e7 ?e8 ?hS ?e9 ?hl ?hC
  walk_at "fsd"
  case hb => intro s vs G hl; match vs, hl with
    | [_, _, _], _ => exact ⟨[.str (Str.ofString "d") 210], binds_K G.X rfl rfl rfl rfl rfl, ⟨_, rfl⟩, trivial⟩
  case hS => exact (SS.cons (S1.unpack (SE.varL 0 rfl) (Tgts.cons (i := 4) rfl (.inl rfl) (Tgts.cons (i := 5) rfl (.inl rfl) (Tgts.cons (i := 6) rfl (.inl rfl) (Tgts.cons (i := 7) rfl (.inl rfl) Tgts.nil)))) (fun _ => rfl) (fun _ => rfl))
 (SS.cons (S1.ite (ST.not (ST.val (SE.varL 5 rfl) (fun _ _ => rfl))) (SS.cons (S1.ret (SE.callN (SE.globF 8 g_mpf_mul rfl) rfl fs_mpf_mul_4 (by decide) (SA.cons (SE.varL 0 rfl) (SA.cons (SE.callN (SE.globF 9 g_from_int rfl) rfl fs_from_int_1 (by decide) (SA.cons (SE.varL 1 rfl) SA.nil (fun _ => rfl)) (.inr k_from_int) (fun _ => rfl) NoStar.nil) (SA.cons (SE.varL 2 rfl) (SA.cons (SE.varL 3 rfl) SA.nil (fun _ => rfl)) (fun _ => rfl)) (fun _ => rfl)) (fun _ => rfl)) (.inr k_mpf_mul) (fun _ => rfl) (NoStar.cons (fun _ => rfl) (NoStar.cons (fun _ => rfl) (NoStar.cons (fun _ => rfl) NoStar.nil)))))
 SS.nil) SS.nil)
 (SS.cons (S1.ite (ST.not (ST.val (SE.varL 1 rfl) (fun _ _ => rfl))) (SS.cons (S1.ret (SE.glob4 10 g_fzero rd_fzero rfl))
 SS.nil) SS.nil)
 (SS.cons (S1.ite (ST.cmp (SE.varL 1 rfl) SE.int rfl) (SS.cons (S1.aug (i := 4) SE.int rfl rfl)
 (SS.cons (S1.assign (i := 1) (SE.un (SE.varL 1 rfl)) rfl (.inl rfl) (fun _ => rfl))
 SS.nil)) SS.nil)
 (SS.cons (S1.aug (i := 5) (SE.varL 1 rfl) rfl rfl)
 (SS.cons (S1.aug (i := 7) (SE.bin (SE.bits (SE.varL 1 rfl) (fun _ => ⟨_, rfl⟩)) SE.int) rfl rfl)
 (SS.cons (S1.aug (i := 7) (SE.bin (SE.varL 5 rfl) (SE.varL 7 rfl)) rfl rfl)
 (SS.cons (S1.ret (SE.callN (SE.globF 11 g_normalize rfl) rfl fs_normalize_6 (by decide) (SA.cons (SE.varL 4 rfl) (SA.cons (SE.varL 5 rfl) (SA.cons (SE.varL 6 rfl) (SA.cons (SE.varL 7 rfl) (SA.cons (SE.varL 2 rfl) (SA.cons (SE.varL 3 rfl) SA.nil (fun _ => rfl)) (fun _ => rfl)) (fun _ => rfl)) (fun _ => rfl)) (fun _ => rfl)) (fun _ => rfl)) (.inr k_normalize) (fun _ => rfl) (NoStar.cons (fun _ => rfl) (NoStar.cons (fun _ => rfl) (NoStar.cons (fun _ => rfl) (NoStar.cons (fun _ => rfl) (NoStar.cons (fun _ => rfl) NoStar.nil)))))))
 SS.nil))))))))
  case hl => rintro pvs P ⟨_, _, _, _, rfl, _⟩; rfl
  case hC =>
    rintro pvs P ⟨N, e, n, prec, rfl, hn, hb, hb2, h⟩
    have hn0 : ¬ (n : Int) = 0 := by omega
    rcases nrm_cases N e with ⟨h0, hq⟩ | ⟨h0, sg, M, z, hs, hM, hN, hq⟩
    · subst h0
      rw [Int.zero_mul, nrm_zero] at h
      rw [hq]; unfold fz
      walk_at "vc"
      exact ⟨⟨n, rfl, n, _, _, rfl, h⟩, fun q => absurd trivial q⟩
    · have hM0 : ¬ (M : Int) = 0 := by omega
      have hbM : nb N.natAbs = nb M + z := by rw [hN, sgn_natAbs, nb_shl z (by omega)]
      have hok : IntMulOk (M : Int) (n : Int) := by
        refine IntMulOk.of_bits ?_ ?_
        · rw [intBits_nat]; have : (2 : Nat) ^ 20 = 1048576 := by decide
          omega
        · rw [intBits_nat]; have : (2 : Nat) ^ 20 = 1048576 := by decide
          omega
      rw [hq]; unfold mk
      walk_at "vc"
      refine ⟨fun q => absurd q hM0, fun _ => ⟨fun q => absurd q hn0, fun _ => ⟨fun q => by omega, fun _ => ⟨hok, ?_, ?_⟩⟩⟩⟩
      · have := nb_pos' (show n ≠ 0 by omega)
        rw [intBits_nat]; omega
      · have hnn := nb_pos' (show n ≠ 0 by omega)
        have e1 : (nb M : Int) + ((Builtin.Int.intBits (n : Int) : Int) - 1) = ((nb M + (nb n - 1) : Nat) : Int) := by rw [intBits_nat]; omega
        have e2 : (M : Int) * (n : Int) = ((M * n : Nat) : Int) := by push_cast; rfl
        rw [e1, e2, Int.toNat_natCast, fdiv_pow]
        have e3 : ((nb M + (nb n - 1) : Nat) : Int) + ((M * n / 2 ^ (nb M + (nb n - 1)) : Nat) : Int) = (nb (M * n) : Int) := by
          rw [← nb_mul_formula (show M ≠ 0 by omega) (show n ≠ 0 by omega)]; push_cast; rfl
        rw [e3]
        have hbb := nb_mul_le M n
        refine ⟨sg, M * n, e + z, prec, _, rfl, hs, fun _ => by omega, .inr (.inr (.inr (.inl rfl))), by omega, ?_⟩
        rw [rnorm_small (by omega), ← nrm_sgn hs, ← nrm_scale, sgn_mul]
        have : sgn sg (M * n * 2 ^ z) = N * n := by
          rw [hN]; unfold sgn; split
          · push_cast; rw [Int.neg_mul, Int.mul_right_comm]
          · push_cast; rw [Int.mul_right_comm]
        rw [this]; exact h

def C_add (pvs : List PV) (P : PV → Prop) : Prop := ∃ (N M g : Int) (prec : Nat) (r : Str), pvs = [.d (nrm N g), .d (nrm M g), .d (.int (prec : Int)), .d (.str r), .d (.int 1)] ∧ Mode r ∧ nb N.natAbs ≤ 40000 ∧ nb M.natAbs ≤ 40000 ∧
  ((prec = 0 ∧ P (.d (nrm (N - M) g))) ∨ (1 ≤ prec ∧ N ≠ 0 ∧ M ≠ 0 ∧ N ≠ M ∧ nb N.natAbs = nb M.natAbs ∧ ∀ (sg' : Int) (M' : Nat) (e' : Int), M' ≠ 0 → (sg' = 1 ∧ N < M ∨ sg' = 0 ∧ M < N) → P (.d (mk sg' M' e'))))
theorem add_fin {P : PV → Prop} {N M g : Int} {prec : Nat} {r : Str} (hr : Mode r) (b1 : nb N.natAbs ≤ 40000) (b2 : nb M.natAbs ≤ 40000)
    (h : (prec = 0 ∧ P (.d (nrm (N - M) g))) ∨ (1 ≤ prec ∧ N ≠ 0 ∧ M ≠ 0 ∧ N ≠ M ∧ nb N.natAbs = nb M.natAbs ∧ ∀ (sg' : Int) (M' : Nat) (e' : Int), M' ≠ 0 → (sg' = 1 ∧ N < M ∨ sg' = 0 ∧ M < N) → P (.d (mk sg' M' e'))))
    {sg man x bc pr : Int} (k : Nat) (h0 : 0 ≤ man) (hx : x = g + k) (he : (sg = 0 ∧ man * 2 ^ k = N - M) ∨ (sg = 1 ∧ -(man * 2 ^ k) = N - M)) (hbc : bc = Builtin.Int.intBits man)
    (hpr : ((prec : Int) = 0 ∧ pr = bc) ∨ (¬ (prec : Int) = 0 ∧ pr = prec)) :
    C_norm [.d (.int sg), .d (.int man), .d (.int x), .d (.int bc), .d (.int pr), .d (.str r)] P := by
  obtain ⟨m, rfl⟩ := Int.eq_ofNat_of_zero_le h0
  rw [intBits_nat] at hbc
  have hsg : sg = 0 ∨ sg = 1 := by omega
  have hmk : m * 2 ^ k = (N - M).natAbs := sgn_abs_le (by rcases he with ⟨_, e⟩ | ⟨_, e⟩; exact .inl e; exact .inr e)
  have hmb : nb m ≤ 40001 := Nat.le_trans (nb_mono (Nat.le_trans (Nat.le_mul_of_pos_right _ (Nat.two_pow_pos k)) (Nat.le_of_eq hmk))) (natAbs_sub_nb b1 b2)
  have hsgn : sgn sg (m * 2 ^ k) = N - M := by
    rcases he with ⟨rfl, e⟩ | ⟨rfl, e⟩
    · rw [sgn_zero, ← e]; push_cast; rfl
    · rw [sgn_one, ← e]; push_cast; rfl
  rcases h with ⟨hp, hP⟩ | ⟨hp, n1, n2, n3, n4, hP⟩
  · rcases hpr with ⟨_, q⟩ | ⟨q, _⟩
    · refine ⟨sg, m, x, nb m, r, by rw [q, hbc], hsg, fun h => nb_pos' h, hr, by omega, ?_⟩
      rw [rnorm_small (Nat.le_refl _), ← nrm_sgn hsg, hx, ← nrm_scale, sgn_mul, hsgn]; exact hP
    · omega
  · rcases hpr with ⟨q, _⟩ | ⟨_, q⟩
    · omega
    · have hm : m ≠ 0 := fun q => by subst q; rw [Nat.zero_mul] at hmk; omega
      obtain ⟨M', e', h1, h2⟩ := rnorm_mk (r := r) (sg := sg) (e := x) hm hp
      refine ⟨sg, m, x, prec, r, by rw [q, hbc], hsg, fun _ => hp, hr, by omega, ?_⟩
      rw [h2]
      refine hP _ _ _ h1 ?_
      have hpos : 0 < m * 2 ^ k := Nat.mul_pos (by omega) (Nat.two_pow_pos k)
      rcases hsg with rfl | rfl
      · rw [sgn_zero] at hsgn; exact .inr ⟨rfl, by omega⟩
      · rw [sgn_one] at hsgn; exact .inl ⟨rfl, by omega⟩

theorem fs_mpf_add_5 : FS (DD w p loose mg mb) (.ref 127) 5 C_add := by
  refine' FS.def (ps := [Str.ofString "s", Str.ofString "t", Str.ofString "prec", Str.ofString "rnd", Str.ofString "_sub"]) (k := 5) (dfl := []) ?ho ?hcd ?hb ?e1 ?e2 ?e3 ?e10 ?e4 ?e5 ?e6 ?e7 ?e8 ?hS ?e9 ?hl ?hC
  walk_at "fsd"
  case hb => intro s vs G hl; match vs, hl with
    | [_, _, _, _, _], _ => exact ⟨[], binds_K G.X rfl rfl rfl rfl rfl, trivial⟩
  case hS => exact (SS.cons (S1.unpack (SE.varL 0 rfl) (Tgts.cons (i := 5) rfl (.inl rfl) (Tgts.cons (i := 6) rfl (.inl rfl) (Tgts.cons (i := 7) rfl (.inl rfl) (Tgts.cons (i := 8) rfl (.inl rfl) Tgts.nil)))) (fun _ => rfl) (fun _ => rfl))
 (SS.cons (S1.unpack (SE.varL 1 rfl) (Tgts.cons (i := 9) rfl (.inl rfl) (Tgts.cons (i := 10) rfl (.inl rfl) (Tgts.cons (i := 11) rfl (.inl rfl) (Tgts.cons (i := 12) rfl (.inl rfl) Tgts.nil)))) (fun _ => rfl) (fun _ => rfl))
 (SS.cons (S1.aug (i := 9) (SE.varL 4 rfl) rfl rfl)
 (SS.cons (S1.ite (ST.and2 (ST.val (SE.varL 6 rfl) (fun _ _ => rfl)) (ST.val (SE.varL 10 rfl) (fun _ _ => rfl))) (SS.cons (S1.assign (i := 13) (SE.bin (SE.varL 7 rfl) (SE.varL 11 rfl)) rfl (.inl rfl) (fun _ => rfl))
 (SS.cons (S1.ite (ST.val (SE.varL 13 rfl) (fun _ _ => rfl)) (SS.cons (S1.ite (ST.cmp (SE.varL 13 rfl) SE.int rfl) (SS.cons (S1.ite (ST.and2 (ST.cmp (SE.varL 13 rfl) SE.int rfl) (ST.val (SE.varL 2 rfl) (fun _ _ => rfl))) (SS.cons (S1.assign (i := 14) (SE.bin (SE.bin (SE.bin (SE.varL 8 rfl) (SE.varL 7 rfl)) (SE.varL 12 rfl)) (SE.varL 11 rfl)) rfl (.inl rfl) (fun _ => rfl))
 (SS.cons (S1.ite (ST.cmp (SE.varL 14 rfl) (SE.bin (SE.varL 2 rfl) SE.int) rfl) (SS.cons (S1.assign (i := 13) (SE.bin (SE.varL 2 rfl) SE.int) rfl (.inl rfl) (fun _ => rfl))
 (SS.cons (S1.aug (i := 6) (SE.varL 13 rfl) rfl rfl)
 (SS.cons (S1.ite (ST.cmp (SE.varL 9 rfl) (SE.varL 5 rfl) rfl) (SS.cons (S1.aug (i := 6) SE.int rfl rfl)
 SS.nil) (SS.cons (S1.aug (i := 6) SE.int rfl rfl)
 SS.nil))
 (SS.cons (S1.ret (SE.callN (SE.globF 17 g_normalize rfl) rfl fs_normalize_6 (by decide) (SA.cons (SE.varL 5 rfl) (SA.cons (SE.varL 6 rfl) (SA.cons (SE.bin (SE.varL 7 rfl) (SE.varL 13 rfl)) (SA.cons (SE.bits (SE.varL 6 rfl) (fun _ => ⟨_, rfl⟩)) (SA.cons (SE.varL 2 rfl) (SA.cons (SE.varL 3 rfl) SA.nil (fun _ => rfl)) (fun _ => rfl)) (fun _ => rfl)) (fun _ => rfl)) (fun _ => rfl)) (fun _ => rfl)) (.inr k_normalize) (fun _ => rfl) (NoStar.cons (fun _ => rfl) (NoStar.cons (fun _ => rfl) (NoStar.cons (fun _ => rfl) (NoStar.cons (fun _ => rfl) (NoStar.cons (fun _ => rfl) NoStar.nil)))))))
 SS.nil)))) SS.nil)
 SS.nil)) SS.nil)
 (SS.cons (S1.ite (ST.cmp (SE.varL 5 rfl) (SE.varL 9 rfl) rfl) (SS.cons (S1.assign (i := 15) (SE.bin (SE.varL 10 rfl) (SE.bin (SE.varL 6 rfl) (SE.varL 13 rfl))) rfl (.inl rfl) (fun _ => rfl))
 SS.nil) (SS.cons (S1.ite (ST.val (SE.varL 5 rfl) (fun _ _ => rfl)) (SS.cons (S1.assign (i := 15) (SE.bin (SE.varL 10 rfl) (SE.bin (SE.varL 6 rfl) (SE.varL 13 rfl))) rfl (.inl rfl) (fun _ => rfl))
 SS.nil) (SS.cons (S1.assign (i := 15) (SE.bin (SE.bin (SE.varL 6 rfl) (SE.varL 13 rfl)) (SE.varL 10 rfl)) rfl (.inl rfl) (fun _ => rfl))
 SS.nil))
 (SS.cons (S1.ite (ST.cmp (SE.varL 15 rfl) SE.int rfl) (SS.cons (S1.assign (i := 5) SE.int rfl (.inl rfl) (fun _ => rfl))
 SS.nil) (SS.cons (S1.assign (i := 15) (SE.un (SE.varL 15 rfl)) rfl (.inl rfl) (fun _ => rfl))
 (SS.cons (S1.assign (i := 5) SE.int rfl (.inl rfl) (fun _ => rfl))
 SS.nil)))
 SS.nil)))
 (SS.cons (S1.assign (i := 16) (SE.bits (SE.varL 15 rfl) (fun _ => ⟨_, rfl⟩)) rfl (.inl rfl) (fun _ => rfl))
 (SS.cons (S1.ret (SE.callN (SE.globF 17 g_normalize rfl) rfl fs_normalize_6 (by decide) (SA.cons (SE.varL 5 rfl) (SA.cons (SE.varL 15 rfl) (SA.cons (SE.varL 11 rfl) (SA.cons (SE.varL 16 rfl) (SA.cons (SE.or2 (SE.varL 2 rfl) (SE.varL 16 rfl)) (SA.cons (SE.varL 3 rfl) SA.nil (fun _ => rfl)) (fun _ => rfl)) (fun _ => rfl)) (fun _ => rfl)) (fun _ => rfl)) (fun _ => rfl)) (.inr k_normalize) (fun _ => rfl) (NoStar.cons (fun _ => rfl) (NoStar.cons (fun _ => rfl) (NoStar.cons (fun _ => rfl) (NoStar.cons (fun _ => rfl) (NoStar.cons (fun _ => rfl) NoStar.nil)))))))
 SS.nil)))) (SS.cons (S1.ite (ST.cmp (SE.varL 13 rfl) SE.int rfl) (SS.cons (S1.ite (ST.and2 (ST.cmp (SE.varL 13 rfl) (SE.un SE.int) rfl) (ST.val (SE.varL 2 rfl) (fun _ _ => rfl))) (SS.cons (S1.assign (i := 14) (SE.bin (SE.bin (SE.bin (SE.varL 12 rfl) (SE.varL 11 rfl)) (SE.varL 8 rfl)) (SE.varL 7 rfl)) rfl (.inl rfl) (fun _ => rfl))
 (SS.cons (S1.ite (ST.cmp (SE.varL 14 rfl) (SE.bin (SE.varL 2 rfl) SE.int) rfl) (SS.cons (S1.assign (i := 13) (SE.bin (SE.varL 2 rfl) SE.int) rfl (.inl rfl) (fun _ => rfl))
 (SS.cons (S1.aug (i := 10) (SE.varL 13 rfl) rfl rfl)
 (SS.cons (S1.ite (ST.cmp (SE.varL 5 rfl) (SE.varL 9 rfl) rfl) (SS.cons (S1.aug (i := 10) SE.int rfl rfl)
 SS.nil) (SS.cons (S1.aug (i := 10) SE.int rfl rfl)
 SS.nil))
 (SS.cons (S1.ret (SE.callN (SE.globF 17 g_normalize rfl) rfl fs_normalize_6 (by decide) (SA.cons (SE.varL 9 rfl) (SA.cons (SE.varL 10 rfl) (SA.cons (SE.bin (SE.varL 11 rfl) (SE.varL 13 rfl)) (SA.cons (SE.bits (SE.varL 10 rfl) (fun _ => ⟨_, rfl⟩)) (SA.cons (SE.varL 2 rfl) (SA.cons (SE.varL 3 rfl) SA.nil (fun _ => rfl)) (fun _ => rfl)) (fun _ => rfl)) (fun _ => rfl)) (fun _ => rfl)) (fun _ => rfl)) (.inr k_normalize) (fun _ => rfl) (NoStar.cons (fun _ => rfl) (NoStar.cons (fun _ => rfl) (NoStar.cons (fun _ => rfl) (NoStar.cons (fun _ => rfl) (NoStar.cons (fun _ => rfl) NoStar.nil)))))))
 SS.nil)))) SS.nil)
 SS.nil)) SS.nil)
 (SS.cons (S1.ite (ST.cmp (SE.varL 5 rfl) (SE.varL 9 rfl) rfl) (SS.cons (S1.assign (i := 15) (SE.bin (SE.varL 6 rfl) (SE.bin (SE.varL 10 rfl) (SE.un (SE.varL 13 rfl)))) rfl (.inl rfl) (fun _ => rfl))
 SS.nil) (SS.cons (S1.ite (ST.val (SE.varL 9 rfl) (fun _ _ => rfl)) (SS.cons (S1.assign (i := 15) (SE.bin (SE.varL 6 rfl) (SE.bin (SE.varL 10 rfl) (SE.un (SE.varL 13 rfl)))) rfl (.inl rfl) (fun _ => rfl))
 SS.nil) (SS.cons (S1.assign (i := 15) (SE.bin (SE.bin (SE.varL 10 rfl) (SE.un (SE.varL 13 rfl))) (SE.varL 6 rfl)) rfl (.inl rfl) (fun _ => rfl))
 SS.nil))
 (SS.cons (S1.ite (ST.cmp (SE.varL 15 rfl) SE.int rfl) (SS.cons (S1.assign (i := 5) SE.int rfl (.inl rfl) (fun _ => rfl))
 SS.nil) (SS.cons (S1.assign (i := 15) (SE.un (SE.varL 15 rfl)) rfl (.inl rfl) (fun _ => rfl))
 (SS.cons (S1.assign (i := 5) SE.int rfl (.inl rfl) (fun _ => rfl))
 SS.nil)))
 SS.nil)))
 (SS.cons (S1.assign (i := 16) (SE.bits (SE.varL 15 rfl) (fun _ => ⟨_, rfl⟩)) rfl (.inl rfl) (fun _ => rfl))
 (SS.cons (S1.ret (SE.callN (SE.globF 17 g_normalize rfl) rfl fs_normalize_6 (by decide) (SA.cons (SE.varL 5 rfl) (SA.cons (SE.varL 15 rfl) (SA.cons (SE.varL 7 rfl) (SA.cons (SE.varL 16 rfl) (SA.cons (SE.or2 (SE.varL 2 rfl) (SE.varL 16 rfl)) (SA.cons (SE.varL 3 rfl) SA.nil (fun _ => rfl)) (fun _ => rfl)) (fun _ => rfl)) (fun _ => rfl)) (fun _ => rfl)) (fun _ => rfl)) (.inr k_normalize) (fun _ => rfl) (NoStar.cons (fun _ => rfl) (NoStar.cons (fun _ => rfl) (NoStar.cons (fun _ => rfl) (NoStar.cons (fun _ => rfl) (NoStar.cons (fun _ => rfl) NoStar.nil)))))))
 SS.nil)))) SS.nil)
 SS.nil))
 SS.nil) SS.nil)
 (SS.cons (S1.ite (ST.cmp (SE.varL 5 rfl) (SE.varL 9 rfl) rfl) (SS.cons (S1.assign (i := 15) (SE.bin (SE.varL 10 rfl) (SE.varL 6 rfl)) rfl (.inl rfl) (fun _ => rfl))
 SS.nil) (SS.cons (S1.ite (ST.val (SE.varL 5 rfl) (fun _ _ => rfl)) (SS.cons (S1.assign (i := 15) (SE.bin (SE.varL 10 rfl) (SE.varL 6 rfl)) rfl (.inl rfl) (fun _ => rfl))
 SS.nil) (SS.cons (S1.assign (i := 15) (SE.bin (SE.varL 6 rfl) (SE.varL 10 rfl)) rfl (.inl rfl) (fun _ => rfl))
 SS.nil))
 (SS.cons (S1.ite (ST.cmp (SE.varL 15 rfl) SE.int rfl) (SS.cons (S1.assign (i := 5) SE.int rfl (.inl rfl) (fun _ => rfl))
 SS.nil) (SS.cons (S1.assign (i := 15) (SE.un (SE.varL 15 rfl)) rfl (.inl rfl) (fun _ => rfl))
 (SS.cons (S1.assign (i := 5) SE.int rfl (.inl rfl) (fun _ => rfl))
 SS.nil)))
 SS.nil)))
 (SS.cons (S1.assign (i := 16) (SE.bits (SE.varL 15 rfl) (fun _ => ⟨_, rfl⟩)) rfl (.inl rfl) (fun _ => rfl))
 (SS.cons (S1.ret (SE.callN (SE.globF 17 g_normalize rfl) rfl fs_normalize_6 (by decide) (SA.cons (SE.varL 5 rfl) (SA.cons (SE.varL 15 rfl) (SA.cons (SE.varL 11 rfl) (SA.cons (SE.varL 16 rfl) (SA.cons (SE.or2 (SE.varL 2 rfl) (SE.varL 16 rfl)) (SA.cons (SE.varL 3 rfl) SA.nil (fun _ => rfl)) (fun _ => rfl)) (fun _ => rfl)) (fun _ => rfl)) (fun _ => rfl)) (fun _ => rfl)) (.inr k_normalize) (fun _ => rfl) (NoStar.cons (fun _ => rfl) (NoStar.cons (fun _ => rfl) (NoStar.cons (fun _ => rfl) (NoStar.cons (fun _ => rfl) (NoStar.cons (fun _ => rfl) NoStar.nil)))))))
 SS.nil))))) SS.nil)
 (SS.cons (S1.ite (ST.val (SE.varL 4 rfl) (fun _ _ => rfl)) (SS.cons (S1.assign (i := 1) (SE.callN (SE.globF 18 g_mpf_neg rfl) rfl fs_mpf_neg_1 (by decide) (SA.cons (SE.varL 1 rfl) SA.nil (fun _ => rfl)) (.inr k_mpf_neg) (fun _ => rfl) NoStar.nil) rfl (.inl rfl) (fun _ => rfl))
 SS.nil) SS.nil)
 (SS.cons (S1.ite (ST.not (ST.val (SE.varL 6 rfl) (fun _ _ => rfl))) (SS.cons (S1.ite (ST.val (SE.varL 7 rfl) (fun _ _ => rfl)) (SS.cons S1.no
 (SS.cons (S1.ret (SE.glob4 19 g_fnan rd_fnan rfl))
 SS.nil)) SS.nil)
 (SS.cons (S1.ite (ST.val (SE.varL 10 rfl) (fun _ _ => rfl)) (SS.cons (S1.ret (SE.callN (SE.globF 17 g_normalize rfl) rfl fs_normalize_6 (by decide) (SA.cons (SE.varL 9 rfl) (SA.cons (SE.varL 10 rfl) (SA.cons (SE.varL 11 rfl) (SA.cons (SE.varL 12 rfl) (SA.cons (SE.or2 (SE.varL 2 rfl) (SE.varL 12 rfl)) (SA.cons (SE.varL 3 rfl) SA.nil (fun _ => rfl)) (fun _ => rfl)) (fun _ => rfl)) (fun _ => rfl)) (fun _ => rfl)) (fun _ => rfl)) (.inr k_normalize) (fun _ => rfl) (NoStar.cons (fun _ => rfl) (NoStar.cons (fun _ => rfl) (NoStar.cons (fun _ => rfl) (NoStar.cons (fun _ => rfl) (NoStar.cons (fun _ => rfl) NoStar.nil)))))))
 SS.nil) SS.nil)
 (SS.cons (S1.ret (SE.varL 1 rfl))
 SS.nil))) SS.nil)
 (SS.cons (S1.ite (ST.val (SE.varL 11 rfl) (fun _ _ => rfl)) (SS.cons (S1.ret (SE.varL 1 rfl))
 SS.nil) SS.nil)
 (SS.cons (S1.ite (ST.val (SE.varL 6 rfl) (fun _ _ => rfl)) (SS.cons (S1.ret (SE.callN (SE.globF 17 g_normalize rfl) rfl fs_normalize_6 (by decide) (SA.cons (SE.varL 5 rfl) (SA.cons (SE.varL 6 rfl) (SA.cons (SE.varL 7 rfl) (SA.cons (SE.varL 8 rfl) (SA.cons (SE.or2 (SE.varL 2 rfl) (SE.varL 8 rfl)) (SA.cons (SE.varL 3 rfl) SA.nil (fun _ => rfl)) (fun _ => rfl)) (fun _ => rfl)) (fun _ => rfl)) (fun _ => rfl)) (fun _ => rfl)) (.inr k_normalize) (fun _ => rfl) (NoStar.cons (fun _ => rfl) (NoStar.cons (fun _ => rfl) (NoStar.cons (fun _ => rfl) (NoStar.cons (fun _ => rfl) (NoStar.cons (fun _ => rfl) NoStar.nil)))))))
 SS.nil) SS.nil)
 (SS.cons (S1.ret (SE.varL 0 rfl))
 SS.nil)))))))))
  case hl => rintro pvs P ⟨_, _, _, _, _, rfl, _⟩; rfl
  case hC =>
    rintro pvs P ⟨N, M, g, prec, r, rfl, hr, b1, b2, h⟩
    have fin := fun {sg man x bc pr : Int} => add_fin (sg := sg) (man := man) (x := x) (bc := bc) (pr := pr) hr b1 b2 h
    have bx0 : Builtin.bitXor 0 1 = 1 := by decide
    have bx1 : Builtin.bitXor 1 1 = 0 := by decide
    rcases nrm_cases N g with ⟨n0, hq⟩ | ⟨n0, sg1, m1, z1, hs1, hm1, hN, hq⟩ <;> rcases nrm_cases M g with ⟨n0', hq'⟩ | ⟨n0', sg2, m2, z2, hs2, hm2, hM, hq'⟩
    · rw [hq, hq']; unfold fz
      walk_at "vc"
      simp only [eq_self, not_true_eq_false, not_false_eq_true, false_implies, true_implies, true_and, and_true, implies_true]
      have h0 : P (.d fz) := by
        rcases h with h | h
        · have := h.2; rw [n0, n0', Int.sub_self, nrm_zero] at this; exact this
        · exact absurd n0 h.2.1
      exact ⟨fun _ => ⟨0, 0, by rw [nrm_zero]; rfl, by rw [Int.neg_zero, nrm_zero]; exact h0⟩, fun q => absurd q (by decide)⟩
    · have hpz : prec = 0 := by rcases h with h | h; exact h.1; exact absurd n0 h.2.1
      rw [hq, hq']; unfold fz mk
      have hMM : ∀ m : Nat, m % 2 = 1 → ((m : Int) = 0) = False := fun m hm => by rw [eq_iff_iff]; constructor <;> intro q <;> first | omega | exact q.elim
      walk_at "vc"
      simp only [hMM _ (by assumption), eq_self, not_true_eq_false, not_false_eq_true, false_implies, true_implies, true_and, and_true, implies_true]
      refine ⟨fun _ => ⟨M, g, by rw [hq']; rfl, fun _ => ?_, fun q => by omega⟩, fun q => absurd q (by decide)⟩
      rcases hs2 with rfl | rfl
      · rw [bx0]
        refine fin z2 (by omega) rfl (.inr ⟨rfl, ?_⟩) (by rw [intBits_nat]) (by omega)
        rw [n0, hM, sgn_zero]; push_cast; omega
      · rw [bx1]
        refine fin z2 (by omega) rfl (.inl ⟨rfl, ?_⟩) (by rw [intBits_nat]) (by omega)
        rw [n0, hM, sgn_one]; push_cast; omega
    · have hpz : prec = 0 := by rcases h with h | h; exact h.1; exact absurd n0' h.2.2.1
      rw [hq, hq']; unfold fz mk
      have hMM : ∀ m : Nat, m % 2 = 1 → ((m : Int) = 0) = False := fun m hm => by rw [eq_iff_iff]; constructor <;> intro q <;> first | omega | exact q.elim
      walk_at "vc"
      simp only [hMM _ (by assumption), eq_self, not_true_eq_false, not_false_eq_true, false_implies, true_implies, true_and, and_true, implies_true]
      refine ⟨fun _ => ⟨0, 0, by rw [nrm_zero]; rfl, fun _ => ?_, fun q => by omega⟩, fun q => absurd q (by decide)⟩
      rcases hs1 with rfl | rfl
      · refine fin z1 (by omega) rfl (.inl ⟨rfl, ?_⟩) (by rw [intBits_nat]) (by omega)
        rw [n0', hN, sgn_zero]; push_cast; omega
      · refine fin z1 (by omega) rfl (.inr ⟨rfl, ?_⟩) (by rw [intBits_nat]) (by omega)
        rw [n0', hN, sgn_one]; push_cast; omega
    · rw [hq, hq']; unfold mk
      have hM1 : ((m1 : Int) = 0) = False := by rw [eq_iff_iff]; constructor <;> intro q <;> first | omega | exact q.elim
      have hM2 : ((m2 : Int) = 0) = False := by rw [eq_iff_iff]; constructor <;> intro q <;> first | omega | exact q.elim
      have c01 : ((0 : Int) = 1) = False := by decide
      have c10 : ((1 : Int) = 0) = False := by decide
      have hb1 : nb N.natAbs = nb m1 + z1 := by rw [hN, sgn_natAbs, nb_shl z1 (by omega)]
      have hb2 : nb M.natAbs = nb m2 + z2 := by rw [hM, sgn_natAbs, nb_shl z2 (by omega)]
      have hpp : ¬ (prec : Int) = 0 → nb N.natAbs = nb M.natAbs := fun q => by rcases h with h | h <;> omega
      have i1 : Builtin.Int.intBits (m1 : Int) = nb m1 := intBits_nat m1
      have i2 : Builtin.Int.intBits (m2 : Int) = nb m2 := intBits_nat m2
      have hN' : N = sgn sg1 m1 * 2 ^ z1 := by rw [sgn_mul]; exact hN
      have hM' : M = sgn sg2 m2 * 2 ^ z2 := by rw [sgn_mul]; exact hM
      clear hN hM hq hq' h
      rcases Nat.lt_or_ge z1 z2 with hz | hz
      · obtain ⟨o, rfl⟩ : ∃ o, z2 = z1 + o := ⟨z2 - z1, by omega⟩
        have e1 : (-(g + (z1 : Int) - (g + ((z1 + o : Nat) : Int)))).toNat = o := by omega
        rw [Int.pow_add, Int.mul_comm (2 ^ z1), ← Int.mul_assoc] at hM'
        have hnn : 0 ≤ (m2 : Int) * 2 ^ o := Int.mul_nonneg (Int.natCast_nonneg m2) (Int.le_of_lt (two_pow_pos_int o))
        rcases hs1 with rfl | rfl <;> rcases hs2 with rfl | rfl
        all_goals
          simp only [sgn_zero, sgn_one, Int.neg_mul] at hN' hM'
          walk_at "vc"
          simp only [bx0, bx1, hM1, hM2, c01, c10, e1, i1, i2, not_true_eq_false, not_false_eq_true, false_implies, true_implies, true_and, and_true, implies_true]
          repeat' (first | refine And.intro ?_ ?_ | intro _)
        all_goals first
          | (exfalso; omega)
          | omega
          | exact fin z1 (by omega) (by omega) (by first | (refine .inl ⟨rfl, ?_⟩; simp only [Int.add_mul, Int.sub_mul, Int.neg_mul]; omega) | (refine .inr ⟨rfl, ?_⟩; simp only [Int.add_mul, Int.sub_mul, Int.neg_mul]; omega)) rfl (by omega)
      · rcases Nat.lt_or_ge z2 z1 with hz' | hz'
        · obtain ⟨o, rfl⟩ : ∃ o, z1 = z2 + o := ⟨z1 - z2, by omega⟩
          have e1 : (g + ((z2 + o : Nat) : Int) - (g + (z2 : Int))).toNat = o := by omega
          rw [Int.pow_add, Int.mul_comm (2 ^ z2), ← Int.mul_assoc] at hN'
          have hnn : 0 ≤ (m1 : Int) * 2 ^ o := Int.mul_nonneg (Int.natCast_nonneg m1) (Int.le_of_lt (two_pow_pos_int o))
          rcases hs1 with rfl | rfl <;> rcases hs2 with rfl | rfl
          all_goals
            simp only [sgn_zero, sgn_one, Int.neg_mul] at hN' hM'
            walk_at "vc"
            simp only [bx0, bx1, hM1, hM2, c01, c10, e1, i1, i2, not_true_eq_false, not_false_eq_true, false_implies, true_implies, true_and, and_true, implies_true]
            repeat' (first | refine And.intro ?_ ?_ | intro _)
          all_goals first
            | (exfalso; omega)
            | omega
            | exact fin z2 (by omega) (by omega) (by first | (refine .inl ⟨rfl, ?_⟩; simp only [Int.add_mul, Int.sub_mul, Int.neg_mul]; omega) | (refine .inr ⟨rfl, ?_⟩; simp only [Int.add_mul, Int.sub_mul, Int.neg_mul]; omega)) rfl (by omega)
        · obtain rfl : z1 = z2 := by omega
          rcases hs1 with rfl | rfl <;> rcases hs2 with rfl | rfl
          all_goals
            simp only [sgn_zero, sgn_one, Int.neg_mul] at hN' hM'
            walk_at "vc"
            simp only [bx0, bx1, hM1, hM2, c01, c10, i1, i2, Int.sub_self, not_true_eq_false, not_false_eq_true, false_implies, true_implies, true_and, and_true, implies_true]
            repeat' (first | refine And.intro ?_ ?_ | intro _)
          all_goals first
            | (exfalso; omega)
            | omega
            | exact fin z1 (by omega) (by omega) (by first | (refine .inl ⟨rfl, ?_⟩; simp only [Int.add_mul, Int.sub_mul, Int.neg_mul]; omega) | (refine .inr ⟨rfl, ?_⟩; simp only [Int.add_mul, Int.sub_mul, Int.neg_mul]; omega)) rfl (by omega)

def C_sub2 (pvs : List PV) (P : PV → Prop) : Prop := ∃ (N M g : Int), pvs = [.d (nrm N g), .d (nrm M g)] ∧ nb N.natAbs ≤ 40000 ∧ nb M.natAbs ≤ 40000 ∧ P (.d (nrm (N - M) g))
theorem fs_mpf_sub_2 : FS (DD w p loose mg mb) (.ref 135) 6 C_sub2 := by
  refine' FS.def (ps := [Str.ofString "s", Str.ofString "t", Str.ofString "prec", Str.ofString "rnd"]) (k := 2) (dfl := [.d (.int 0), .d (.str (Str.ofString "d"))]) ?ho ?hcd ?hb ?e1 ?e2 ?e3 ?e10 ?e4 ?e5 ?e6 ?e7 ?e8 ?hS ?e9 ?hl ?hC
  walk_at "fsd"
  case hb => intro s vs G hl; match vs, hl with
    | [_, _], _ => exact ⟨[.int 0 418, .str (Str.ofString "d") 210], binds_K G.X rfl rfl rfl rfl rfl, ⟨_, rfl⟩, ⟨_, rfl⟩, trivial⟩
  case hS => exact (SS.cons (S1.ret (SE.callN (SE.globF 4 g_mpf_add rfl) rfl fs_mpf_add_5 (by decide) (SA.cons (SE.varL 0 rfl) (SA.cons (SE.varL 1 rfl) (SA.cons (SE.varL 2 rfl) (SA.cons (SE.varL 3 rfl) (SA.cons SE.int SA.nil (fun _ => rfl)) (fun _ => rfl)) (fun _ => rfl)) (fun _ => rfl)) (fun _ => rfl)) (.inr k_mpf_add) (fun _ => rfl) (NoStar.cons (fun _ => rfl) (NoStar.cons (fun _ => rfl) (NoStar.cons (fun _ => rfl) (NoStar.cons (fun _ => rfl) NoStar.nil))))))
 SS.nil)
  case hl => rintro pvs P ⟨_, _, _, rfl, _⟩; rfl
  case hC =>
    rintro pvs P ⟨N, M, g, rfl, b1, b2, h⟩
    walk_at "vc"
    exact ⟨N, M, g, 0, _, rfl, .inr (.inr (.inr (.inl rfl))), b1, b2, .inl ⟨rfl, h⟩⟩

def C_sub4 (pvs : List PV) (P : PV → Prop) : Prop := ∃ (N M g : Int) (prec : Nat) (r : Str), pvs = [.d (nrm N g), .d (nrm M g), .d (.int (prec : Int)), .d (.str r)] ∧ Mode r ∧ nb N.natAbs ≤ 40000 ∧ nb M.natAbs ≤ 40000 ∧
  1 ≤ prec ∧ N ≠ 0 ∧ M ≠ 0 ∧ N ≠ M ∧ nb N.natAbs = nb M.natAbs ∧ ∀ (sg' : Int) (M' : Nat) (e' : Int), M' ≠ 0 → (sg' = 1 ∧ N < M ∨ sg' = 0 ∧ M < N) → P (.d (mk sg' M' e'))
theorem fs_mpf_sub_4 : FS (DD w p loose mg mb) (.ref 135) 6 C_sub4 := by
  refine' FS.def (ps := [Str.ofString "s", Str.ofString "t", Str.ofString "prec", Str.ofString "rnd"]) (k := 4) (dfl := []) ?ho ?hcd ?hb ?e1 ?e2 ?e3 ?e10 ?e4 ?e5 ?e6 ?e7 ?e8 ?hS ?e9 ?hl ?hC
  walk_at "fsd"
  case hb => intro s vs G hl; match vs, hl with
    | [_, _, _, _], _ => exact ⟨[], binds_K G.X rfl rfl rfl rfl rfl, trivial⟩
  case hS => exact (SS.cons (S1.ret (SE.callN (SE.globF 4 g_mpf_add rfl) rfl fs_mpf_add_5 (by decide) (SA.cons (SE.varL 0 rfl) (SA.cons (SE.varL 1 rfl) (SA.cons (SE.varL 2 rfl) (SA.cons (SE.varL 3 rfl) (SA.cons SE.int SA.nil (fun _ => rfl)) (fun _ => rfl)) (fun _ => rfl)) (fun _ => rfl)) (fun _ => rfl)) (.inr k_mpf_add) (fun _ => rfl) (NoStar.cons (fun _ => rfl) (NoStar.cons (fun _ => rfl) (NoStar.cons (fun _ => rfl) (NoStar.cons (fun _ => rfl) NoStar.nil))))))
 SS.nil)
  case hl => rintro pvs P ⟨_, _, _, _, _, rfl, _⟩; rfl
  case hC =>
    rintro pvs P ⟨N, M, g, prec, r, rfl, hr, b1, b2, h⟩
    walk_at "vc"
    exact ⟨N, M, g, prec, _, rfl, hr, b1, b2, .inr h⟩
end
end Mine

-- ---------- Fn5 ----------
set_option maxRecDepth 100000
set_option autoImplicit false
set_option linter.all false
set_option Elab.async false
set_option maxHeartbeats 4000000
namespace Mine
open PySem PySem.W PyProof.Rows PySem.Calls PySem.Spec

local macro_rules | `(tactic| walk_at "vc") => `(tactic| simp only [init, List.map_cons, List.map_nil, List.cons_append, List.nil_append, List.append_nil, List.length_cons, List.length_nil, List.replicate, List.replicate_zero, List.replicate_succ, List.reverse_cons, List.reverse_nil,
  Nat.reduceAdd, Nat.reduceSub, v_add, v_sub, v_mul, v_div, v_mod, v_shl, v_shr, v_and, v_xor, v_pow, v_iadd, v_isub, v_imul, v_ishl, v_ishr, v_ixor, v_tint, v_tbool, v_tnone, v_usub, v_unot, v_lt, v_le, v_gt, v_ge, v_eqi, v_nei, v_eqs, v_neb, v_eq4, v_in4, v_eq2,
  v_bits, v_get0, v_getS, v_set0, v_setS, v_all0, v_allS, v_sets0, v_setsS, v_nsets0, v_nsetsS, v_unt, v_unl, v_itl, v_it0, v_it1, v_it2, v_it3, v_int, v_abs, v_len, v_divmod, v_isint, v_shift,
  Bool.not_eq_true', Bool.not_eq_false', bne_iff_ne, ne_eq, bne_eq_false_iff_eq, Bool.not_true, Bool.not_false, decide_eq_true_eq, decide_eq_false_iff_not, true_and, and_true, forall_const, reduceCtorEq, false_implies, true_implies])
-- fsd: the plain goals of FS.def
local macro_rules | `(tactic| walk_at "fsd") => `(tactic| (
  (case ho => exact rfl)
  (case hcd => exact rfl)
  (case e1 => exact rfl)
  (case e2 => decide)
  (case e3 => decide)
  (case e10 => decide)
  (case e4 => decide)
  (case e5 => decide)
  (case e6 => exact rfl)
  (case e7 => exact rfl)
  (case e8 => exact rfl)
  (case e9 => exact rfl)
  skip))

section
variable {w : World} {p : Program} {loose : List Str} {mg mb : Str → Option Value} {n : Nat} {cs : Scope}

theorem pow_odd_inj {m1 m2 z1 z2 : Nat} (h1 : m1 % 2 = 1) (h2 : m2 % 2 = 1) (h : m1 * 2 ^ z1 = m2 * 2 ^ z2) : z1 = z2 := by
  have e1 := tz_pow z1 (show m1 ≠ 0 by omega)
  have e2 := tz_pow z2 (show m2 ≠ 0 by omega)
  rw [tz_odd h1] at e1; rw [tz_odd h2] at e2
  rw [h] at e1; omega

def C_cmp4 (pvs : List PV) (P : PV → Prop) : Prop := ∃ (N M g : Int), pvs = [.d (nrm N g), .d (nrm M g)] ∧ nb N.natAbs ≤ 40000 ∧ nb M.natAbs ≤ 40000 ∧
  (N < M → P (.d (.int (-1)))) ∧ (N = M → P (.d (.int 0))) ∧ (M < N → P (.d (.int 1)))
theorem fs_mpf_cmp_2 : FS (DD w p loose mg mb) (.ref 82) 7 C_cmp4 := by
  refine' FS.def (ps := [Str.ofString "s", Str.ofString "t"]) (k := 2) (dfl := []) ?ho ?hcd ?hb ?e1 ?e2 ?e3 ?e10 ?e4 ?e5 ?e6 ?e7 ?e8 ?hS ?e9 ?hl ?hC
  walk_at "fsd"
  case hb => intro s vs G hl; match vs, hl with
    | [_, _], _ => exact ⟨[], .of_eq rfl, trivial⟩
  case hS => exact (SS.cons (S1.unpack (SE.varL 0 rfl) (Tgts.cons (i := 2) rfl (.inl rfl) (Tgts.cons (i := 3) rfl (.inl rfl) (Tgts.cons (i := 4) rfl (.inl rfl) (Tgts.cons (i := 5) rfl (.inl rfl) Tgts.nil)))) (fun _ => rfl) (fun _ => rfl))
 (SS.cons (S1.unpack (SE.varL 1 rfl) (Tgts.cons (i := 6) rfl (.inl rfl) (Tgts.cons (i := 7) rfl (.inl rfl) (Tgts.cons (i := 8) rfl (.inl rfl) (Tgts.cons (i := 9) rfl (.inl rfl) Tgts.nil)))) (fun _ => rfl) (fun _ => rfl))
 (SS.cons (S1.ite (ST.or2 (ST.not (ST.val (SE.varL 3 rfl) (fun _ _ => rfl))) (ST.not (ST.val (SE.varL 7 rfl) (fun _ _ => rfl)))) (SS.cons (S1.ite (ST.cmp (SE.varL 0 rfl) (SE.glob4 13 g_fzero rd_fzero rfl) rfl) (SS.cons (S1.ret (SE.un (SE.callN (SE.globF 14 g_mpf_sign rfl) rfl fs_mpf_sign_1 (by decide) (SA.cons (SE.varL 1 rfl) SA.nil (fun _ => rfl)) (.inr k_mpf_sign) (fun _ => rfl) NoStar.nil)))
 SS.nil) SS.nil)
 (SS.cons (S1.ite (ST.cmp (SE.varL 1 rfl) (SE.glob4 13 g_fzero rd_fzero rfl) rfl) (SS.cons (S1.ret (SE.callN (SE.globF 14 g_mpf_sign rfl) rfl fs_mpf_sign_1 (by decide) (SA.cons (SE.varL 0 rfl) SA.nil (fun _ => rfl)) (.inr k_mpf_sign) (fun _ => rfl) NoStar.nil))
 SS.nil) SS.nil)
 (SS.cons (S1.ite (ST.cmp (SE.varL 0 rfl) (SE.varL 1 rfl) rfl) (SS.cons (S1.ret SE.int)
 SS.nil) SS.nil)
 (SS.cons (S1.ite (ST.cmp (SE.varL 1 rfl) (SE.glob4 15 g_fnan rd_fnan rfl) rfl) (SS.cons (S1.ret SE.int)
 SS.nil) SS.nil)
 (SS.cons (S1.ite (ST.cmp (SE.varL 0 rfl) (SE.glob4 16 g_finf rd_finf rfl) rfl) (SS.cons (S1.ret SE.int)
 SS.nil) SS.nil)
 (SS.cons (S1.ite (ST.cmp (SE.varL 1 rfl) (SE.glob4 17 g_fninf rd_fninf rfl) rfl) (SS.cons (S1.ret SE.int)
 SS.nil) SS.nil)
 (SS.cons (S1.ret (SE.un SE.int))
 SS.nil))))))) SS.nil)
 (SS.cons (S1.ite (ST.cmp (SE.varL 2 rfl) (SE.varL 6 rfl) rfl) (SS.cons (S1.ite (ST.not (ST.val (SE.varL 2 rfl) (fun _ _ => rfl))) (SS.cons (S1.ret SE.int)
 SS.nil) SS.nil)
 (SS.cons (S1.ret (SE.un SE.int))
 SS.nil)) SS.nil)
 (SS.cons (S1.ite (ST.cmp (SE.varL 4 rfl) (SE.varL 8 rfl) rfl) (SS.cons (S1.ite (ST.cmp (SE.varL 3 rfl) (SE.varL 7 rfl) rfl) (SS.cons (S1.ret SE.int)
 SS.nil) SS.nil)
 (SS.cons (S1.ite (ST.cmp (SE.varL 3 rfl) (SE.varL 7 rfl) rfl) (SS.cons (S1.ite (ST.val (SE.varL 2 rfl) (fun _ _ => rfl)) (SS.cons (S1.ret (SE.un SE.int))
 SS.nil) (SS.cons (S1.ret SE.int)
 SS.nil))
 SS.nil) (SS.cons (S1.ite (ST.val (SE.varL 2 rfl) (fun _ _ => rfl)) (SS.cons (S1.ret SE.int)
 SS.nil) (SS.cons (S1.ret (SE.un SE.int))
 SS.nil))
 SS.nil))
 SS.nil)) SS.nil)
 (SS.cons (S1.assign (i := 10) (SE.bin (SE.varL 5 rfl) (SE.varL 4 rfl)) rfl (.inl rfl) (fun _ => rfl))
 (SS.cons (S1.assign (i := 11) (SE.bin (SE.varL 9 rfl) (SE.varL 8 rfl)) rfl (.inl rfl) (fun _ => rfl))
 (SS.cons (S1.ite (ST.val (SE.varL 2 rfl) (fun _ _ => rfl)) (SS.cons (S1.ite (ST.cmp (SE.varL 10 rfl) (SE.varL 11 rfl) rfl) (SS.cons (S1.ret SE.int)
 SS.nil) SS.nil)
 (SS.cons (S1.ite (ST.cmp (SE.varL 10 rfl) (SE.varL 11 rfl) rfl) (SS.cons (S1.ret (SE.un SE.int))
 SS.nil) SS.nil)
 SS.nil)) (SS.cons (S1.ite (ST.cmp (SE.varL 10 rfl) (SE.varL 11 rfl) rfl) (SS.cons (S1.ret (SE.un SE.int))
 SS.nil) SS.nil)
 (SS.cons (S1.ite (ST.cmp (SE.varL 10 rfl) (SE.varL 11 rfl) rfl) (SS.cons (S1.ret SE.int)
 SS.nil) SS.nil)
 SS.nil)))
 (SS.cons (S1.assign (i := 12) (SE.callN (SE.globF 18 g_mpf_sub rfl) rfl fs_mpf_sub_4 (by decide) (SA.cons (SE.varL 0 rfl) (SA.cons (SE.varL 1 rfl) (SA.cons SE.int (SA.cons (SE.globS 19 g_round_floor rfl) SA.nil (fun _ => rfl)) (fun _ => rfl)) (fun _ => rfl)) (fun _ => rfl)) (.inr k_mpf_sub) (fun _ => rfl) (NoStar.cons (fun _ => rfl) (NoStar.cons (fun _ => rfl) (NoStar.cons (fun _ => rfl) NoStar.nil)))) rfl (.inl rfl) (fun _ => rfl))
 (SS.cons (S1.ite (ST.val (SE.item (SE.varL 12 rfl) SE.int (fun _ _ => by with_unfolding_all rfl)) (fun _ _ => rfl)) (SS.cons (S1.ret (SE.un SE.int))
 SS.nil) SS.nil)
 (SS.cons (S1.ret SE.int)
 SS.nil)))))))))))
  case hl => rintro pvs P ⟨_, _, _, rfl, _⟩; rfl
  case hC =>
    rintro pvs P ⟨N, M, g, rfl, b1, b2, hlt, heq, hgt⟩
    have hMM : ∀ m : Nat, m % 2 = 1 → ((m : Int) = 0) = False := fun m hm => by rw [eq_iff_iff]; constructor <;> intro q <;> first | omega | exact q.elim
    have c01 : ((0 : Int) = 1) = False := by decide
    have c10 : ((1 : Int) = 0) = False := by decide
    rcases nrm_cases N g with ⟨n0, hq⟩ | ⟨n0, sg1, m1, z1, hs1, hm1, hN, hq⟩ <;> rcases nrm_cases M g with ⟨n0', hq'⟩ | ⟨n0', sg2, m2, z2, hs2, hm2, hM, hq'⟩
    · rw [hq, hq']; unfold fz
      walk_at "vc"
      simp only [eq_self, not_true_eq_false, not_false_eq_true, false_implies, true_implies, true_and, and_true, implies_true]
      exact ⟨M, g, by rw [hq']; rfl, by rw [n0']; exact heq (by omega)⟩
    · rw [hq, hq']; unfold fz mk
      walk_at "vc"
      simp only [hMM _ hm2, eq_self, not_true_eq_false, not_false_eq_true, false_implies, true_implies, true_and, and_true, implies_true]
      refine ⟨M, g, by rw [hq']; rfl, ?_⟩
      rcases Int.lt_trichotomy M 0 with q | q | q
      · rw [Int.sign_eq_neg_one_of_neg q]; exact hgt (by omega)
      · exact absurd q n0'
      · rw [Int.sign_eq_one_of_pos q]; exact hlt (by omega)
    · rw [hq, hq']; unfold fz mk
      walk_at "vc"
      simp only [hMM _ hm1, eq_self, not_true_eq_false, not_false_eq_true, false_implies, true_implies, true_and, and_true, implies_true, false_and, and_false]
      refine ⟨N, g, by rw [hq]; rfl, ?_⟩
      rcases Int.lt_trichotomy N 0 with q | q | q
      · rw [Int.sign_eq_neg_one_of_neg q]; exact hlt (by omega)
      · exact absurd q n0
      · rw [Int.sign_eq_one_of_pos q]; exact hgt (by omega)
    · have hmk : PyData.tuple [.int sg1, .int (m1 : Int), .int (g + z1), .int (nb m1 : Int)] = nrm N g := by rw [hq]; rfl
      have hmk' : PyData.tuple [.int sg2, .int (m2 : Int), .int (g + z2), .int (nb m2 : Int)] = nrm M g := by rw [hq']; rfl
      have hb1 : nb N.natAbs = nb m1 + z1 := by rw [hN, sgn_natAbs, nb_shl z1 (by omega)]
      have hb2 : nb M.natAbs = nb m2 + z2 := by rw [hM, sgn_natAbs, nb_shl z2 (by omega)]
      have hp1 : 0 < m1 * 2 ^ z1 := Nat.mul_pos (by omega) (Nat.two_pow_pos _)
      have hp2 : 0 < m2 * 2 ^ z2 := Nat.mul_pos (by omega) (Nat.two_pow_pos _)
      have k1 : nb m1 + z1 < nb m2 + z2 → m1 * 2 ^ z1 < m2 * 2 ^ z2 := fun q => by
        rcases Nat.lt_or_ge (m1 * 2 ^ z1) (m2 * 2 ^ z2) with c | c
        · exact c
        · have := nb_mono c; rw [nb_shl _ (by omega), nb_shl _ (by omega)] at this; omega
      have k2 : nb m2 + z2 < nb m1 + z1 → m2 * 2 ^ z2 < m1 * 2 ^ z1 := fun q => by
        rcases Nat.lt_or_ge (m2 * 2 ^ z2) (m1 * 2 ^ z1) with c | c
        · exact c
        · have := nb_mono c; rw [nb_shl _ (by omega), nb_shl _ (by omega)] at this; omega
      have k3 : z1 ≠ z2 → m1 * 2 ^ z1 ≠ m2 * 2 ^ z2 := fun q c => q (pow_odd_inj hm1 hm2 c)
      have k4 : z1 = z2 → m1 = m2 → m1 * 2 ^ z1 = m2 * 2 ^ z2 := fun a b => by rw [a, b]
      have k5 : z1 = z2 → m1 < m2 → m1 * 2 ^ z1 < m2 * 2 ^ z2 := fun a b => by rw [a]; exact Nat.mul_lt_mul_of_pos_right b (Nat.two_pow_pos _)
      have k6 : z1 = z2 → m2 < m1 → m2 * 2 ^ z2 < m1 * 2 ^ z1 := fun a b => by rw [a]; exact Nat.mul_lt_mul_of_pos_right b (Nat.two_pow_pos _)
      rw [hq, hq']; unfold mk
      generalize m1 * 2 ^ z1 = X at *
      generalize m2 * 2 ^ z2 = Y at *
      have fin : ∀ v : Int, (N < M → v = -1) → (N = M → v = 0) → (M < N → v = 1) → P (.d (.int v)) := by
        intro v a b c
        rcases Int.lt_trichotomy N M with q | q | q
        · rw [a q]; exact hlt q
        · rw [b q]; exact heq q
        · rw [c q]; exact hgt q
      rcases hs1 with rfl | rfl <;> rcases hs2 with rfl | rfl
      all_goals
        simp only [sgn_zero, sgn_one] at hN hM
        walk_at "vc"
        simp only [hMM _ hm1, hMM _ hm2, c01, c10, eq_self, not_true_eq_false, not_false_eq_true, false_implies, true_implies, true_and, and_true, implies_true, false_and, and_false]
        repeat' (first | refine And.intro ?_ ?_ | intro _)
      all_goals first
        | (apply fin <;> intro _ <;> omega)
        | skip
      all_goals
        refine ⟨N, M, g, 5, _, by rw [hmk, hmk']; rfl, .inr (.inl rfl), b1, b2, by omega, n0, n0', by omega, by omega, ?_⟩
        intro sg' M' e' hM' hsg
        unfold mk
        walk_at "vc"
        refine ⟨fun q => fin _ ?_ ?_ ?_, fun q => fin _ ?_ ?_ ?_⟩ <;> intro _ <;> omega

theorem nrm_four (N e : Int) : ∃ a b c d : Int, nrm N e = .tuple [.int a, .int b, .int c, .int d] ∧ 0 ≤ d := by
  rcases nrm_cases N e with ⟨_, hq⟩ | ⟨_, sg, M, z, _, _, _, hq⟩
  · exact ⟨0, 0, 0, 0, hq, by decide⟩
  · exact ⟨sg, M, e + z, nb M, hq, by omega⟩

def C_lt4 (pvs : List PV) (P : PV → Prop) : Prop := ∃ (N M g : Int), pvs = [.d (nrm N g), .d (nrm M g)] ∧ nb N.natAbs ≤ 40000 ∧ nb M.natAbs ≤ 40000 ∧ P (.d (.bool (decide (N < M))))
theorem fs_mpf_lt_2 : FS (DD w p loose mg mb) (.ref 89) 8 C_lt4 := by
  refine' FS.def (ps := [Str.ofString "s", Str.ofString "t"]) (k := 2) (dfl := []) ?ho ?hcd ?hb ?e1 ?e2 ?e3 ?e10 ?e4 ?e5 ?e6 ?e7 ?e8 ?hS ?e9 ?hl ?hC
  walk_at "fsd"
  case hb => intro s vs G hl; match vs, hl with
    | [_, _], _ => exact ⟨[], .of_eq rfl, trivial⟩
  case hS => exact (SS.cons (S1.ite (ST.or2 (ST.cmp (SE.varL 0 rfl) (SE.glob4 2 g_fnan rd_fnan rfl) rfl) (ST.cmp (SE.varL 1 rfl) (SE.glob4 2 g_fnan rd_fnan rfl) rfl)) (SS.cons (S1.ret SE.bool)
 SS.nil) SS.nil)
 (SS.cons (S1.ret (SE.cmp (SE.callN (SE.globF 3 g_mpf_cmp rfl) rfl fs_mpf_cmp_2 (by decide) (SA.cons (SE.varL 0 rfl) (SA.cons (SE.varL 1 rfl) SA.nil (fun _ => rfl)) (fun _ => rfl)) (.inr k_mpf_cmp) (fun _ => rfl) (NoStar.cons (fun _ => rfl) NoStar.nil)) SE.int rfl))
 SS.nil))
  case hl => rintro pvs P ⟨_, _, _, rfl, _⟩; rfl
  case hC =>
    rintro pvs P ⟨N, M, g, rfl, b1, b2, h⟩
    obtain ⟨a, b, c, d, hq, hnn⟩ := nrm_four N g
    obtain ⟨a', b', c', d', hq', hnn'⟩ := nrm_four M g
    rw [hq, hq']
    walk_at "vc"
    refine ⟨fun _ => ⟨fun q => by omega, fun _ => ?_⟩, fun q => by omega⟩
    refine ⟨N, M, g, by rw [hq, hq'], b1, b2, fun q => ?_, fun q => ?_, fun q => ?_⟩
    · walk_at "vc"; rw [decide_eq_true q] at h; exact h
    · walk_at "vc"; rw [decide_eq_false (by omega)] at h; exact h
    · walk_at "vc"; rw [decide_eq_false (by omega)] at h; exact h
def C_le4 (pvs : List PV) (P : PV → Prop) : Prop := ∃ (N M g : Int), pvs = [.d (nrm N g), .d (nrm M g)] ∧ nb N.natAbs ≤ 40000 ∧ nb M.natAbs ≤ 40000 ∧ P (.d (.bool (decide (N ≤ M))))
theorem fs_mpf_le_2 : FS (DD w p loose mg mb) (.ref 96) 8 C_le4 := by
  refine' FS.def (ps := [Str.ofString "s", Str.ofString "t"]) (k := 2) (dfl := []) ?ho ?hcd ?hb ?e1 ?e2 ?e3 ?e10 ?e4 ?e5 ?e6 ?e7 ?e8 ?hS ?e9 ?hl ?hC
  walk_at "fsd"
  case hb => intro s vs G hl; match vs, hl with
    | [_, _], _ => exact ⟨[], .of_eq rfl, trivial⟩
  case hS => exact (SS.cons (S1.ite (ST.or2 (ST.cmp (SE.varL 0 rfl) (SE.glob4 2 g_fnan rd_fnan rfl) rfl) (ST.cmp (SE.varL 1 rfl) (SE.glob4 2 g_fnan rd_fnan rfl) rfl)) (SS.cons (S1.ret SE.bool)
 SS.nil) SS.nil)
 (SS.cons (S1.ret (SE.cmp (SE.callN (SE.globF 3 g_mpf_cmp rfl) rfl fs_mpf_cmp_2 (by decide) (SA.cons (SE.varL 0 rfl) (SA.cons (SE.varL 1 rfl) SA.nil (fun _ => rfl)) (fun _ => rfl)) (.inr k_mpf_cmp) (fun _ => rfl) (NoStar.cons (fun _ => rfl) NoStar.nil)) SE.int rfl))
 SS.nil))
  case hl => rintro pvs P ⟨_, _, _, rfl, _⟩; rfl
  case hC =>
    rintro pvs P ⟨N, M, g, rfl, b1, b2, h⟩
    obtain ⟨a, b, c, d, hq, hnn⟩ := nrm_four N g
    obtain ⟨a', b', c', d', hq', hnn'⟩ := nrm_four M g
    rw [hq, hq']
    walk_at "vc"
    refine ⟨fun _ => ⟨fun q => by omega, fun _ => ?_⟩, fun q => by omega⟩
    refine ⟨N, M, g, by rw [hq, hq'], b1, b2, fun q => ?_, fun q => ?_, fun q => ?_⟩
    · walk_at "vc"; rw [decide_eq_true (by omega)] at h; exact h
    · walk_at "vc"; rw [decide_eq_true (by omega)] at h; exact h
    · walk_at "vc"; rw [decide_eq_false (by omega)] at h; exact h
end
end Mine

-- ---------- Fn6 ----------
set_option maxRecDepth 100000
set_option autoImplicit false
set_option linter.all false
set_option Elab.async false
set_option maxHeartbeats 4000000
namespace Mine
open PySem PySem.W PyProof.Rows PySem.Calls PySem.Spec

local macro_rules | `(tactic| walk_at "vc") => `(tactic| simp only [init, List.map_cons, List.map_nil, List.cons_append, List.nil_append, List.append_nil, List.length_cons, List.length_nil, List.replicate, List.replicate_zero, List.replicate_succ, List.reverse_cons, List.reverse_nil,
  Nat.reduceAdd, Nat.reduceSub, v_add, v_sub, v_mul, v_div, v_mod, v_shl, v_shr, v_and, v_xor, v_pow, v_iadd, v_isub, v_imul, v_ishl, v_ishr, v_ixor, v_tint, v_tbool, v_tnone, v_usub, v_unot, v_lt, v_le, v_gt, v_ge, v_eqi, v_nei, v_eqs, v_neb, v_eq4, v_in4, v_eq2,
  v_bits, v_get0, v_getS, v_set0, v_setS, v_all0, v_allS, v_sets0, v_setsS, v_nsets0, v_nsetsS, v_unt, v_unl, v_itl, v_it0, v_it1, v_it2, v_it3, v_int, v_abs, v_len, v_divmod, v_isint, v_shift,
  Bool.not_eq_true', Bool.not_eq_false', bne_iff_ne, ne_eq, bne_eq_false_iff_eq, Bool.not_true, Bool.not_false, decide_eq_true_eq, decide_eq_false_iff_not, true_and, and_true, forall_const, reduceCtorEq, false_implies, true_implies])
-- fsd: the plain goals of FS.def
local macro_rules | `(tactic| walk_at "fsd") => `(tactic| (
  (case ho => exact rfl)
  (case hcd => exact rfl)
  (case e1 => exact rfl)
  (case e2 => decide)
  (case e3 => decide)
  (case e10 => decide)
  (case e4 => decide)
  (case e5 => decide)
  (case e6 => exact rfl)
  (case e7 => exact rfl)
  (case e8 => exact rfl)
  (case e9 => exact rfl)
  skip))

section
variable {w : World} {p : Program} {loose : List Str} {mg mb : Str → Option Value} {n : Nat} {cs : Scope}

theorem fdiv_nat (a b : Nat) : (a : Int).fdiv b = ((a / b : Nat) : Int) := by rw [Int.fdiv_eq_ediv_of_nonneg _ (Int.natCast_nonneg b)]; rfl
theorem fmod_nat (a b : Nat) : (a : Int).fmod b = ((a % b : Nat) : Int) := by rw [Int.fmod_eq_emod_of_nonneg _ (Int.natCast_nonneg b)]; rfl
theorem noPy {x : Int} {y : Nat} (h : nb y ≤ 9000) : Builtin.divisionGoesByPylong x y = false := by
  refine PyProof.noPylong_of_log2 ?_
  rw [Int.natAbs_natCast]
  rcases Nat.eq_zero_or_pos y with q | q
  · subst q; decide
  · rw [nb_pos (by omega)] at h; omega
def divEnv (sg : Int) (m1 z1 m2 z2 prec : Nat) (r : Str) (X : Nat) (Q rem : Option PV) : Env1 :=
  [some (.d (.tuple [.int sg, .int m1, .int (0 + z1), .int (nb m1)])), some (.d (.tuple [.int 0, .int m2, .int (0 + z2), .int (nb m2)])), some (.d (.int prec)), some (.d (.str r)), some (.d (.int sg)), some (.d (.int m1)), some (.d (.int (0 + z1))),
   some (.d (.int (nb m1))), some (.d (.int 0)), some (.d (.int m2)), some (.d (.int (0 + z2))), some (.d (.int (nb m2))), none, none, some (.d (.int sg)), some (.d (.int X)), Q, rem, none, none, none, none, none, none, none, none, none, none]
def C_div (pvs : List PV) (P : PV → Prop) : Prop := ∃ (a : Int) (q prec : Nat) (r : Str), pvs = [.d (nrm a 0), .d (nrm (q : Int) 0), .d (.int (prec : Int)), .d (.str r)] ∧ Mode r ∧ 0 < q ∧ 1 ≤ prec ∧ prec ≤ 1000 ∧ nb a.natAbs ≤ 400 ∧ nb q ≤ 400 ∧ ∀ x, FRx r prec a q x → P (.d x)
theorem fs_mpf_div_4 : FS (DD w p loose mg mb) (.ref 159) 5 C_div := by
  refine' FS.def (ps := [Str.ofString "s", Str.ofString "t", Str.ofString "prec", Str.ofString "rnd"]) (k := 4) (dfl := []) ?ho ?hcd ?hb ?e1 ?e2 ?e3 ?e10 ?e4 ?e5 ?e6 ?e7 ?e8 ?hS ?e9 ?hl ?hC
  walk_at "fsd"
  case hb => intro s vs G hl; match vs, hl with
    | [_, _, _, _], _ => exact ⟨[], binds_K G.X rfl rfl rfl rfl rfl, trivial⟩
  case hS => exact (SS.cons (S1.unpack (SE.varL 0 rfl) (Tgts.cons (i := 4) rfl (.inl rfl) (Tgts.cons (i := 5) rfl (.inl rfl) (Tgts.cons (i := 6) rfl (.inl rfl) (Tgts.cons (i := 7) rfl (.inl rfl) Tgts.nil)))) (fun _ => rfl) (fun _ => rfl))
 (SS.cons (S1.unpack (SE.varL 1 rfl) (Tgts.cons (i := 8) rfl (.inl rfl) (Tgts.cons (i := 9) rfl (.inl rfl) (Tgts.cons (i := 10) rfl (.inl rfl) (Tgts.cons (i := 11) rfl (.inl rfl) Tgts.nil)))) (fun _ => rfl) (fun _ => rfl))
 (SS.cons (S1.ite (ST.or2 (ST.not (ST.val (SE.varL 5 rfl) (fun _ _ => rfl))) (ST.not (ST.val (SE.varL 9 rfl) (fun _ _ => rfl)))) (SS.cons (S1.ite (ST.cmp (SE.varL 0 rfl) (SE.glob4 19 g_fzero rd_fzero rfl) rfl) (SS.cons (S1.ite (ST.cmp (SE.varL 1 rfl) (SE.glob4 19 g_fzero rd_fzero rfl) rfl) (SS.cons S1.raise
 SS.nil) SS.nil)
 (SS.cons (S1.ite (ST.cmp (SE.varL 1 rfl) (SE.glob4 21 g_fnan rd_fnan rfl) rfl) (SS.cons (S1.ret (SE.glob4 21 g_fnan rd_fnan rfl))
 SS.nil) SS.nil)
 (SS.cons (S1.ret (SE.glob4 19 g_fzero rd_fzero rfl))
 SS.nil))) SS.nil)
 (SS.cons (S1.ite (ST.cmp (SE.varL 1 rfl) (SE.glob4 19 g_fzero rd_fzero rfl) rfl) (SS.cons S1.raise
 SS.nil) SS.nil)
 (SS.cons (S1.assign (i := 12) (SE.and2 (SE.un (SE.varL 5 rfl)) (SE.varL 6 rfl)) rfl (.inl rfl) (fun _ => rfl))
 (SS.cons (S1.assign (i := 13) (SE.and2 (SE.un (SE.varL 9 rfl)) (SE.varL 10 rfl)) rfl (.inl rfl) (fun _ => rfl))
 (SS.cons (S1.ite (ST.and2 (ST.val (SE.varL 12 rfl) (fun _ _ => rfl)) (ST.val (SE.varL 13 rfl) (fun _ _ => rfl))) (SS.cons (S1.ret (SE.glob4 21 g_fnan rd_fnan rfl))
 SS.nil) SS.nil)
 (SS.cons (S1.ite (ST.or2 (ST.cmp (SE.varL 0 rfl) (SE.glob4 21 g_fnan rd_fnan rfl) rfl) (ST.cmp (SE.varL 1 rfl) (SE.glob4 21 g_fnan rd_fnan rfl) rfl)) (SS.cons (S1.ret (SE.glob4 21 g_fnan rd_fnan rfl))
 SS.nil) SS.nil)
 (SS.cons (S1.ite (ST.not (ST.val (SE.varL 13 rfl) (fun _ _ => rfl))) (SS.cons (S1.ite (ST.cmp (SE.varL 1 rfl) (SE.glob4 19 g_fzero rd_fzero rfl) rfl) (SS.cons (S1.ret (SE.glob4 21 g_fnan rd_fnan rfl))
 SS.nil) SS.nil)
 (SS.cons S1.no
 SS.nil)) SS.nil)
 (SS.cons (S1.ret (SE.glob4 19 g_fzero rd_fzero rfl))
 SS.nil)))))))) SS.nil)
 (SS.cons (S1.assign (i := 14) (SE.bin (SE.varL 4 rfl) (SE.varL 8 rfl)) rfl (.inl rfl) (fun _ => rfl))
 (SS.cons (S1.ite (ST.cmp (SE.varL 9 rfl) SE.int rfl) (SS.cons (S1.ret (SE.callN (SE.globF 25 g_normalize rfl) rfl fs_normalize_6 (by decide) (SA.cons (SE.varL 14 rfl) (SA.cons (SE.varL 5 rfl) (SA.cons (SE.bin (SE.varL 6 rfl) (SE.varL 10 rfl)) (SA.cons (SE.varL 7 rfl) (SA.cons (SE.varL 2 rfl) (SA.cons (SE.varL 3 rfl) SA.nil (fun _ => rfl)) (fun _ => rfl)) (fun _ => rfl)) (fun _ => rfl)) (fun _ => rfl)) (fun _ => rfl)) (.inr k_normalize) (fun _ => rfl) (NoStar.cons (fun _ => rfl) (NoStar.cons (fun _ => rfl) (NoStar.cons (fun _ => rfl) (NoStar.cons (fun _ => rfl) (NoStar.cons (fun _ => rfl) NoStar.nil)))))))
 SS.nil) SS.nil)
 (SS.cons (S1.ite (ST.not (ST.val (SE.varL 2 rfl) (fun _ _ => rfl))) (SS.cons S1.no
 SS.nil) (SS.cons (S1.assign (i := 15) (SE.bin (SE.bin (SE.bin (SE.varL 2 rfl) (SE.varL 7 rfl)) (SE.varL 11 rfl)) SE.int) rfl (.inl rfl) (fun _ => rfl))
 SS.nil))
 (SS.cons (S1.cut (S1.ite (ST.cmp (SE.varL 15 rfl) SE.int rfl) (SS.cons (S1.assign (i := 15) SE.int rfl (.inl rfl) (fun _ => rfl))
 SS.nil) SS.nil))
 (SS.cons (S1.unpack (SE.callN (SE.globB 27 g_divmod b_divmod (by decide) rfl) rfl FS.divmod (Nat.zero_le _) (SA.cons (SE.bin (SE.varL 5 rfl) (SE.varL 15 rfl)) (SA.cons (SE.varL 9 rfl) SA.nil (fun _ => rfl)) (fun _ => rfl)) (.inl (fun _ q => nomatch q)) (fun _ => rfl) (NoStar.cons (fun _ => rfl) NoStar.nil)) (Tgts.cons (i := 16) rfl (.inl rfl) (Tgts.cons (i := 17) rfl (.inl rfl) Tgts.nil)) (fun _ => rfl) (fun _ => rfl))
 (SS.cons (S1.cut (S1.ite (ST.val (SE.varL 17 rfl) (fun _ _ => rfl)) (SS.cons (S1.assign (i := 16) (SE.bin (SE.bin (SE.varL 16 rfl) SE.int) SE.int) rfl (.inl rfl) (fun _ => rfl))
 (SS.cons (S1.aug (i := 15) SE.int rfl rfl)
 SS.nil)) SS.nil))
 (SS.cons (S1.assign (i := 18) (SE.bits (SE.varL 16 rfl) (fun _ => ⟨_, rfl⟩)) rfl (.inl rfl) (fun _ => rfl))
 (SS.cons (S1.ret (SE.callN (SE.globF 25 g_normalize rfl) rfl fs_normalize_6 (by decide) (SA.cons (SE.varL 14 rfl) (SA.cons (SE.varL 16 rfl) (SA.cons (SE.bin (SE.bin (SE.varL 6 rfl) (SE.varL 10 rfl)) (SE.varL 15 rfl)) (SA.cons (SE.varL 18 rfl) (SA.cons (SE.or2 (SE.varL 2 rfl) (SE.varL 18 rfl)) (SA.cons (SE.varL 3 rfl) SA.nil (fun _ => rfl)) (fun _ => rfl)) (fun _ => rfl)) (fun _ => rfl)) (fun _ => rfl)) (fun _ => rfl)) (.inr k_normalize) (fun _ => rfl) (NoStar.cons (fun _ => rfl) (NoStar.cons (fun _ => rfl) (NoStar.cons (fun _ => rfl) (NoStar.cons (fun _ => rfl) (NoStar.cons (fun _ => rfl) NoStar.nil)))))))
 SS.nil)))))))))))
  case hl => rintro pvs P ⟨_, _, _, _, rfl, _⟩; rfl
  case hC =>
    rintro pvs P ⟨a, q, prec, r, rfl, hr, hq0, hp, hp2, b1, b2, h⟩
    have hpp : ¬ (prec : Int) = 0 := by omega
    rcases nrm_cases (q : Int) 0 with ⟨h0, _⟩ | ⟨_, sg2, m2, z2, hs2, hm2, hM, hqq⟩
    · omega
    have hs20 : sg2 = 0 := by
      rcases hs2 with q | q
      · exact q
      · exfalso; subst q; rw [sgn_one] at hM; have := Int.natCast_nonneg (m2 * 2 ^ z2); omega
    subst hs20
    rw [sgn_zero] at hM
    have hM' : q = m2 * 2 ^ z2 := by exact_mod_cast hM
    have hm20 : ¬ (m2 : Int) = 0 := by omega
    rcases nrm_cases a 0 with ⟨h0, hq⟩ | ⟨h0, sg, m1, z1, hs, hm1, hN, hq⟩
    · have h' := h fz (.inl ⟨h0, rfl⟩)
      rw [hq, hqq]; unfold fz at h' ⊢; unfold mk
      walk_at "vc"
      simp [show ¬ m2 = 0 by omega, h']
    · have hm10 : ¬ (m1 : Int) = 0 := by omega
      rw [hq, hqq]; unfold mk
      walk_at "vc"
      simp only [show ((m1 : Int) = 0) = False from eq_false hm10, show ((m2 : Int) = 0) = False from eq_false hm20, show ((prec : Int) = 0) = False from eq_false hpp, not_false_eq_true, not_true_eq_false, false_implies, true_implies, true_and, and_true, implies_true, false_and, and_false]
      have hx : Builtin.bitXor sg 0 = sg := by rcases hs with rfl | rfl <;> decide
      have hsa : sg = (if a < 0 then 1 else 0) ∧ a.natAbs = m1 * 2 ^ z1 := by
        have hpos : 0 < m1 * 2 ^ z1 := Nat.mul_pos (by omega) (Nat.two_pow_pos _)
        rw [hN, sgn_natAbs]
        refine ⟨?_, rfl⟩
        rcases hs with rfl | rfl
        · rw [sgn_zero, if_neg (by omega)]
        · rw [sgn_one, if_pos (by omega)]
      obtain ⟨hsa, hsb⟩ := hsa
      rw [hx]
      rw [hsb, nb_shl _ (by omega)] at b1
      have b2' := b2
      rw [hM', nb_shl _ (by omega)] at b2
      have fin : ∀ x, IsFR r prec sg (m1 * 2 ^ z1) (m2 * 2 ^ z2) x → P (.d x) := fun x hx => h x (.inr ⟨h0, by rw [← hsa, hsb, hM']; exact hx⟩)
      clear h
      refine ⟨fun e1 => ?_, fun _ => ?_⟩
      · have e1' : m2 = 1 := by omega
        subst e1'
        refine ⟨sg, m1, _, prec, r, rfl, hs, fun _ => hp, hr, by omega, fin _ ?_⟩
        rw [show (0 + (z1 : Int) - (0 + z2)) = z1 - z2 by omega]
        exact fr_one hp hp2 (by omega) (by omega) (by omega)
      · refine ⟨fun ρ' => ∃ X : Nat, prec + nb m2 + 5 ≤ nb m1 + X ∧ X ≤ 2000 ∧ ρ' = divEnv sg m1 z1 m2 z2 prec r X none none, ⟨fun q => ⟨5, by omega, by omega, rfl⟩, fun q => ?_⟩, ?_⟩
        · refine ⟨prec + nb m2 + 5 - nb m1, by omega, by omega, ?_⟩
          rw [show ((prec : Int) - nb m1 + nb m2 + 5) = ((prec + nb m2 + 5 - nb m1 : Nat) : Int) by omega]
          rfl
        · rintro ρ' ⟨X, hX, hX2, rfl⟩
          unfold divEnv
          walk_at "vc"
          simp only [Int.toNat_natCast]
          have e1 : (m1 : Int) * 2 ^ X = ((m1 * 2 ^ X : Nat) : Int) := by push_cast; rfl
          rw [e1, fdiv_nat, fmod_nat]
          refine ⟨by omega, by rw [intBits_nat]; omega, hm20, noPy (by omega), ?_⟩
          refine ⟨fun ρ' => ∃ (Q Y : Nat) (rem : Int), ((m1 * 2 ^ X % m2 = 0 ∧ Q = m1 * 2 ^ X / m2 ∧ Y = X) ∨ (m1 * 2 ^ X % m2 ≠ 0 ∧ Q = 2 * (m1 * 2 ^ X / m2) + 1 ∧ Y = X + 1)) ∧ ρ' = divEnv sg m1 z1 m2 z2 prec r Y (some (.d (.int (Q : Int)))) (some (.d (.int rem))), ⟨fun q => ?_, fun q => ?_⟩, ?_⟩
          · have q' : m1 * 2 ^ X % m2 ≠ 0 := by exact_mod_cast q
            refine ⟨by decide, ?_, ?_⟩
            · rw [intBits_nat]
              have k1 : nb (m1 * 2 ^ X / m2) ≤ nb m1 + X := by rw [← nb_shl X (show m1 ≠ 0 by omega)]; exact nb_mono (Nat.div_le_self _ _)
              omega
            · refine ⟨2 * (m1 * 2 ^ X / m2) + 1, X + 1, ((m1 * 2 ^ X % m2 : Nat) : Int), .inr ⟨q', rfl, rfl⟩, ?_⟩
              have k1 : ((m1 * 2 ^ X / m2 : Nat) : Int) * 2 ^ Int.toNat 1 + 1 = ((2 * (m1 * 2 ^ X / m2) + 1 : Nat) : Int) := by
                rw [show Int.toNat 1 = 1 from rfl]; omega
              rw [k1]; rfl
          · have q' : m1 * 2 ^ X % m2 = 0 := by exact_mod_cast q
            exact ⟨_, _, _, .inl ⟨q', rfl, rfl⟩, rfl⟩
          · rintro ρ' ⟨Q, Y, rem, hQ, rfl⟩
            obtain ⟨f1, f2⟩ := fr_quot (r := r) (sg := sg) hp (show m1 ≠ 0 by omega) (show m2 ≠ 0 by omega) hX hX2 (show nb m1 + z1 ≤ 500 by omega) (show nb m2 + z2 ≤ 500 by omega) hQ
            unfold divEnv
            walk_at "vc"
            simp only [show ((prec : Int) = 0) = False from eq_false hpp, not_false_eq_true, not_true_eq_false, false_implies, true_implies, true_and, and_true, implies_true, false_and, and_false]
            rw [intBits_nat]
            refine ⟨sg, Q, _, prec, r, rfl, hs, fun _ => hp, hr, by omega, fin _ ?_⟩
            rw [show (0 + (z1 : Int) - (0 + z2) - Y) = z1 - z2 - Y by omega]
            exact f1

def C_frat (pvs : List PV) (P : PV → Prop) : Prop := ∃ (a : Int) (q prec : Nat) (r : Str), pvs = [.d (.int a), .d (.int (q : Int)), .d (.int (prec : Int)), .d (.str r)] ∧ Mode r ∧ 0 < q ∧ 1 ≤ prec ∧ prec ≤ 1000 ∧ nb a.natAbs ≤ 400 ∧ nb q ≤ 400 ∧ ∀ x, FRx r prec a q x → P (.d x)
theorem fs_from_rational_4 : FS (DD w p loose mg mb) (.ref 68) 6 C_frat := by
  refine' FS.def (ps := [Str.ofString "p", Str.ofString "q", Str.ofString "prec", Str.ofString "rnd"]) (k := 4) (dfl := []) ?ho ?hcd ?hb ?e1 ?e2 ?e3 ?e10 ?e4 ?e5 ?e6 ?e7 ?e8 ?hS ?e9 ?hl ?hC
  walk_at "fsd"
  case hb => intro s vs G hl; match vs, hl with
    | [_, _, _, _], _ => exact ⟨[], binds_K G.X rfl rfl rfl rfl rfl, trivial⟩
  case hS => exact (SS.cons (S1.ret (SE.callN (SE.globF 4 g_mpf_div rfl) rfl fs_mpf_div_4 (by decide) (SA.cons (SE.callN (SE.globF 5 g_from_int rfl) rfl fs_from_int_1 (by decide) (SA.cons (SE.varL 0 rfl) SA.nil (fun _ => rfl)) (.inr k_from_int) (fun _ => rfl) NoStar.nil) (SA.cons (SE.callN (SE.globF 5 g_from_int rfl) rfl fs_from_int_1 (by decide) (SA.cons (SE.varL 1 rfl) SA.nil (fun _ => rfl)) (.inr k_from_int) (fun _ => rfl) NoStar.nil) (SA.cons (SE.varL 2 rfl) (SA.cons (SE.varL 3 rfl) SA.nil (fun _ => rfl)) (fun _ => rfl)) (fun _ => rfl)) (fun _ => rfl)) (.inr k_mpf_div) (fun _ => rfl) (NoStar.cons (fun _ => rfl) (NoStar.cons (fun _ => rfl) (NoStar.cons (fun _ => rfl) NoStar.nil)))))
 SS.nil)
  case hl => rintro pvs P ⟨_, _, _, _, rfl, _⟩; rfl
  case hC =>
    rintro pvs P ⟨a, q, prec, r, rfl, hr, hq0, hp, hp2, b1, b2, h⟩
    walk_at "vc"
    exact ⟨_, rfl, _, rfl, a, q, prec, r, rfl, hr, hq0, hp, hp2, b1, b2, h⟩
end
end Mine

-- ---------- Fn7 ----------
set_option maxRecDepth 100000
set_option autoImplicit false
set_option linter.all false
set_option Elab.async false
set_option maxHeartbeats 4000000
namespace Mine
open PySem PySem.W PyProof.Rows PySem.Calls PySem.Spec

local macro_rules | `(tactic| walk_at "vc") => `(tactic| simp only [init, List.map_cons, List.map_nil, List.cons_append, List.nil_append, List.append_nil, List.length_cons, List.length_nil, List.replicate, List.replicate_zero, List.replicate_succ, List.reverse_cons, List.reverse_nil,
  Nat.reduceAdd, Nat.reduceSub, v_add, v_sub, v_mul, v_div, v_mod, v_shl, v_shr, v_and, v_xor, v_pow, v_iadd, v_isub, v_imul, v_ishl, v_ishr, v_ixor, v_tint, v_tbool, v_tnone, v_usub, v_unot, v_lt, v_le, v_gt, v_ge, v_eqi, v_nei, v_eqs, v_neb, v_eq4, v_in4, v_eq2,
  v_bits, v_get0, v_getS, v_set0, v_setS, v_all0, v_allS, v_sets0, v_setsS, v_nsets0, v_nsetsS, v_unt, v_unl, v_itl, v_it0, v_it1, v_it2, v_it3, v_int, v_abs, v_len, v_divmod, v_isint, v_shift,
  Bool.not_eq_true', Bool.not_eq_false', bne_iff_ne, ne_eq, bne_eq_false_iff_eq, Bool.not_true, Bool.not_false, decide_eq_true_eq, decide_eq_false_iff_not, true_and, and_true, forall_const, reduceCtorEq, false_implies, true_implies])
-- fsd: the plain goals of FS.def
local macro_rules | `(tactic| walk_at "fsd") => `(tactic| (
  (case ho => exact rfl)
  (case hcd => exact rfl)
  (case e1 => exact rfl)
  (case e2 => decide)
  (case e3 => decide)
  (case e10 => decide)
  (case e4 => decide)
  (case e5 => decide)
  (case e6 => exact rfl)
  (case e7 => exact rfl)
  (case e8 => exact rfl)
  (case e9 => exact rfl)
  skip))

section
variable {w : World} {p : Program} {loose : List Str} {mg mb : Str → Option Value} {n : Nat} {cs : Scope}

def C_mixed (pvs : List PV) (P : PV → Prop) : Prop := ∃ (xs : List Int) (k : Nat), pvs = [.d (.list (xs.map .int)), .d (.int k)] ∧ xs.length ≤ 1000000 ∧ (∀ x ∈ xs, nb x.natAbs ≤ 1048576) ∧ k ≤ 2 ∧ ∀ v : Nat, nb v ≤ 1048576 → P (.d (.int v))
theorem fs_ulaw_mixed_2 : FS (DD w p loose mg mb) (.ref 166) 1 C_mixed := by
  refine' FS.def (ps := [Str.ofString "script", Str.ofString "k"]) (k := 2) (dfl := []) ?ho ?hcd ?hb ?e1 ?e2 ?e3 ?e10 ?e4 ?e5 ?e6 ?e7 ?e8 ?hS ?e9 ?hl ?hC
  walk_at "fsd"
  case hb => intro s vs G hl; match vs, hl with
    | [_, _], _ => exact ⟨[], .of_eq rfl, trivial⟩
  case hS => exact (SS.cons (S1.assign (i := 2) (SE.ite (ST.cmp (SE.varL 1 rfl) (SE.callN (SE.globB 3 g_len b_len (by decide) rfl) rfl FS.len (Nat.zero_le _) (SA.cons (SE.varL 0 rfl) SA.nil (fun _ => rfl)) (.inl (fun _ q => nomatch q)) (fun _ => rfl) NoStar.nil) rfl) (SE.item (SE.varL 0 rfl) (SE.varL 1 rfl) (fun _ _ => by with_unfolding_all rfl)) SE.int) rfl (.inl rfl) (fun _ => rfl))
 (SS.cons (S1.ite (ST.cmp (SE.varL 2 rfl) (SE.bin SE.int SE.int) rfl) (SS.cons (S1.ret (SE.varL 2 rfl))
 SS.nil) SS.nil)
 (SS.cons (S1.ret (SE.bin (SE.bin (SE.bin (SE.varL 2 rfl) SE.int) (SE.bin (SE.bin (SE.varL 1 rfl) SE.int) SE.int)) (SE.bin SE.int SE.int)))
 SS.nil)))
  case hl => rintro pvs P ⟨_, _, rfl, _⟩; rfl
  case hC =>
    rintro pvs P ⟨xs, k, rfl, hlen, hxs, hk, h⟩
    walk_at "vc"
    have p64 : (2 : Int) ^ Int.toNat 64 = 18446744073709551616 := by decide
    have p190 : (2 : Int) ^ Int.toNat 190 = 2 ^ 190 := rfl
    have m1 : IntMulOk ((k : Int) + 1) 1442695040888963407 := IntMulOk.of_right (by decide)
    have fin : ∀ z : Int, P (.d (.int (z.fmod (2 ^ Int.toNat 190)))) := fun z => by
      rw [p190, Int.fmod_eq_emod_of_nonneg _ (by decide)]
      have q1 := Int.emod_nonneg z (show (2 : Int) ^ 190 ≠ 0 by decide)
      have q2 := Int.emod_lt_of_pos z (show (0 : Int) < 2 ^ 190 by decide)
      obtain ⟨u, hu⟩ := Int.eq_ofNat_of_zero_le q1
      rw [hu] at q2 ⊢
      refine h u (Nat.le_trans (nb_le (k := 190) ?_) (by decide))
      exact_mod_cast q2
    refine ⟨by simpa using hlen, fun hk1 => ⟨by omega, by omega, ?_⟩, fun _ => ⟨by decide, by decide, by decide, fun q => by rw [p64] at q; omega, fun _ => ⟨IntMulOk.of_left (by decide), m1, by decide, by decide, by decide, by rw [p190]; decide, fin _⟩⟩⟩
    rw [Int.toNat_natCast, List.getElem?_map]
    cases hx : xs[k]? with
    | none => rw [List.length_map] at hk1; rw [List.getElem?_eq_none_iff] at hx; omega
    | some x =>
      have hb := hxs x (List.mem_of_getElem? hx)
      simp only [Option.map_some]
      walk_at "vc"
      refine ⟨by decide, by decide, by decide, fun q => ?_, fun q => ⟨?_, m1, by decide, by decide, by decide, by rw [p190]; decide, fin _⟩⟩
      · rw [p64] at q
        obtain ⟨u, rfl⟩ := Int.eq_ofNat_of_zero_le (show 0 ≤ x by omega)
        exact h u hb
      · refine IntMulOk.of_right (by decide)


def C_lraw (pvs : List PV) (P : PV → Prop) : Prop := ∃ (rich : Nat), pvs = [.d (.int rich), .d (.int 24), .d (.int 20)] ∧ nb rich ≤ 1048576 ∧ P (.d fz) ∧ ∀ (sg : Int) (M : Nat) (e : Int), sg = 0 ∨ sg = 1 → M % 2 = 1 → nb M ≤ 24 → -20 ≤ e → e ≤ 20 → P (.d (mk sg M e))
theorem fs_ulaw_raw_3 : FS (DD w p loose mg mb) (.ref 173) 1 C_lraw := by
  refine' FS.def (ps := [Str.ofString "rich", Str.ofString "bits", Str.ofString "spread"]) (k := 3) (dfl := []) ?ho ?hcd ?hb ?e1 ?e2 ?e3 ?e10 ?e4 ?e5 ?e6 ?e7 ?e8 ?hS ?e9 ?hl ?hC
  walk_at "fsd"
  case hb => intro s vs G hl; match vs, hl with
    | [_, _, _], _ => exact ⟨[], .of_eq rfl, trivial⟩
  case hS => exact (SS.cons (S1.swap (names := [Str.ofString "kind", Str.ofString "e", Str.ofString "m"]) (SA.cons (SE.bin (SE.bin (SE.varL 0 rfl) SE.int) SE.int) (SA.cons (SE.bin (SE.bin (SE.bin (SE.varL 0 rfl) SE.int) (SE.bin (SE.bin SE.int (SE.varL 2 rfl)) SE.int)) (SE.varL 2 rfl)) (SA.cons (SE.bin (SE.varL 0 rfl) (SE.bin SE.int SE.int)) SA.nil (fun _ => rfl)) (fun _ => rfl)) (fun _ => rfl)) (NAt.cons (i := 5) rfl (.inl rfl) (NAt.cons (i := 4) rfl (.inl rfl) (NAt.cons (i := 3) rfl (.inl rfl) NAt.nil))) rfl (by decide) (fun _ => rfl) (fun _ _ _ _ _ => rfl))
 (SS.cons (S1.ite (ST.cmp (SE.varL 3 rfl) SE.int rfl) (SS.cons (S1.ret (SE.tuple (SA.cons SE.int (SA.cons SE.int (SA.cons SE.int (SA.cons SE.int SA.nil (fun _ => rfl)) (fun _ => rfl)) (fun _ => rfl)) (fun _ => rfl)) (by decide)))
 SS.nil) SS.nil)
 (SS.cons (S1.assign (i := 6) (SE.bin (SE.bin (SE.bin (SE.bin (SE.varL 5 rfl) (SE.bin SE.int (SE.bin SE.int (SE.bin (SE.varL 5 rfl) (SE.varL 1 rfl))))) SE.int) SE.int) SE.int) rfl (.inl rfl) (fun _ => rfl))
 (SS.cons (S1.cut (S1.ite (ST.cmp (SE.varL 3 rfl) SE.int rfl) (SS.cons (S1.assign (i := 6) SE.int rfl (.inl rfl) (fun _ => rfl))
 SS.nil) (SS.cons (S1.ite (ST.cmp (SE.varL 3 rfl) SE.int rfl) (SS.cons (S1.assign (i := 6) (SE.bin (SE.bin SE.int (SE.bin SE.int (SE.bin (SE.varL 5 rfl) (SE.varL 1 rfl)))) SE.int) rfl (.inl rfl) (fun _ => rfl))
 SS.nil) (SS.cons (S1.ite (ST.and2 (ST.cmp (SE.varL 3 rfl) SE.int rfl) (ST.cmp (SE.varL 1 rfl) SE.int rfl)) (SS.cons (S1.assign (i := 6) (SE.bin (SE.bin SE.int (SE.bin SE.int (SE.bin (SE.varL 5 rfl) (SE.bin (SE.varL 1 rfl) SE.int)))) SE.int) rfl (.inl rfl) (fun _ => rfl))
 SS.nil) SS.nil)
 SS.nil))
 SS.nil)))
 (SS.cons (S1.ret (SE.tuple (SA.cons (SE.bin (SE.varL 0 rfl) SE.int) (SA.cons (SE.varL 6 rfl) (SA.cons (SE.varL 4 rfl) (SA.cons (SE.bits (SE.varL 6 rfl) (fun _ => ⟨_, rfl⟩)) SA.nil (fun _ => rfl)) (fun _ => rfl)) (fun _ => rfl)) (fun _ => rfl)) (by decide)))
 SS.nil)))))
  case hl => rintro pvs P ⟨_, rfl, _⟩; rfl
  case hC =>
    rintro pvs P ⟨rich, rfl, hb, hz, h⟩
    walk_at "vc"
    have fm : ∀ (x : Int) (y : Nat), 0 < y → 0 ≤ x.fmod (y : Int) ∧ x.fmod (y : Int) < (y : Int) := fun x y hy => by
      rw [Int.fmod_eq_emod_of_nonneg _ (by omega)]; exact ⟨Int.emod_nonneg _ (by omega), Int.emod_lt_of_pos _ (by omega)⟩
    have py : ∀ (x : Int) (y : Nat), nb y ≤ 9000 → Builtin.divisionGoesByPylong x (y : Int) = false := fun x y q => noPy q
    have py2 : ∀ x : Int, Builtin.divisionGoesByPylong x 2 = false := fun x => py x 2 (by decide)
    have p16 : (2 : Int) ^ Int.toNat 16 = ((65536 : Nat) : Int) := by decide
    rw [p16]
    generalize (rich : Int).fdiv ((65536 : Nat) : Int) = m
    have fE := fm ((rich : Int).fdiv 16) 41 (by decide)
    rw [show (2 : Int) * 20 + 1 = ((41 : Nat) : Int) by decide]
    generalize hE : ((rich : Int).fdiv 16).fmod ((41 : Nat) : Int) - 20 = E
    have fS := fm (rich : Int) 2 (by decide)
    obtain ⟨k, hk⟩ := Int.eq_ofNat_of_zero_le (fm m 24 (by decide)).1
    have hk' := (fm m 24 (by decide)).2
    obtain ⟨j, hj⟩ := Int.eq_ofNat_of_zero_le (fm m 23 (by decide)).1
    have hj' := (fm m 23 (by decide)).2
    rw [show (24 : Int) - 1 = ((23 : Nat) : Int) by decide, show m.fmod 24 = (k : Int) from hk, hj, show ((1 : Int) + (k : Int)).toNat = k + 1 by omega, show ((1 : Int) + (j : Int)).toNat = j + 1 by omega]
    have hk2 : k < 24 := by rw [hk] at hk'; omega
    have hj2 : j < 23 := by rw [hj] at hj'; omega
    have pk : (2 : Int) ^ (k + 1) = ((2 * 2 ^ k : Nat) : Int) := by push_cast; rw [Int.pow_succ, Int.mul_comm]
    have pj : (2 : Int) ^ (j + 1) = ((2 * 2 ^ j : Nat) : Int) := by push_cast; rw [Int.pow_succ, Int.mul_comm]
    have pk0 : 0 < 2 ^ k := Nat.two_pow_pos k
    have pj0 : 0 < 2 ^ j := Nat.two_pow_pos j
    have pk1 : 2 ^ k ≤ 2 ^ 23 := Nat.pow_le_pow_right (by decide) (by omega)
    have pj1 : 2 ^ j ≤ 2 ^ 22 := Nat.pow_le_pow_right (by decide) (by omega)
    rw [pk, pj]
    obtain ⟨u, hu⟩ := Int.eq_ofNat_of_zero_le (fm m (2 * 2 ^ k) (by omega)).1
    have hu' := (fm m (2 * 2 ^ k) (by omega)).2
    rw [hu] at hu' ⊢
    refine ⟨by decide, py2 _, by decide, by decide, py _ 16 (by decide), IntMulOk.of_right (by decide), by decide, by decide, by decide, by decide, by decide, py _ _ (by decide), fun _ => hz,
      fun _ => ⟨by decide, by omega, by omega, by decide, by omega, by decide, py2 _, IntMulOk.of_right (by decide),
        fun ρ' => ∃ (kd x : Option PV) (z : Int), (∃ M : Nat, z = (M : Int) ∧ M % 2 = 1 ∧ nb M ≤ 24) ∧ ρ' = [some (.d (.int rich)), some (.d (.int 24)), some (.d (.int 20)), kd, some (.d (.int E)), x, some (.d (.int z))],
        ⟨fun _ => ⟨_, _, _, ⟨1, rfl, rfl, by decide⟩, rfl⟩, fun _ => ⟨fun _ => ⟨by decide, by omega, by omega, by decide, _, _, _, ⟨2 * 2 ^ k - 1, by omega, by omega, nb_le (by omega)⟩, rfl⟩,
          fun _ => ⟨fun _ => ⟨fun _ => ⟨by decide, by omega, by omega, by decide, _, _, _, ⟨2 * 2 ^ j + 1, by omega, by omega, nb_le (by omega)⟩, rfl⟩, fun _ => ⟨_, _, _, ⟨u / 2 * 2 + 1, ?_, by omega, nb_le (by omega)⟩, rfl⟩⟩,
            fun _ => ⟨_, _, _, ⟨u / 2 * 2 + 1, ?_, by omega, nb_le (by omega)⟩, rfl⟩⟩⟩⟩, ?_⟩⟩
    · rw [show (u : Int).fdiv 2 = ((u / 2 : Nat) : Int) from fdiv_nat u 2]; omega
    · rw [show (u : Int).fdiv 2 = ((u / 2 : Nat) : Int) from fdiv_nat u 2]; omega
    · rintro ρ' ⟨kd, x, z, ⟨M, rfl, hM, hb24⟩, rfl⟩
      walk_at "vc"
      rw [intBits_nat]
      refine ⟨by decide, h _ M E ?_ hM hb24 (by omega) (by omega)⟩
      have : (rich : Int).fmod ((2 : Nat) : Int) = 0 ∨ (rich : Int).fmod ((2 : Nat) : Int) = 1 := by omega
      exact this
end
end Mine

-- ---------- BaseR ----------
set_option maxRecDepth 100000
set_option autoImplicit false
set_option linter.all false
set_option maxHeartbeats 400000
namespace Mine
open PySem PySem.W PyProof.Rows PySem.Calls PySem.Spec

mutual
def nl : PyData → Bool
  | .list _ => false
  | .dict _ => false
  | .tuple xs => nlAll xs
  | _ => true
def nlAll : List PyData → Bool
  | [] => true
  | x :: xs => nl x && nlAll xs
end
mutual
theorem RD.nlKeeps {h h' : Heap} {a : Addr} (he : Heap.ExtBut a h h') (ha : ∃ o, h.get? a = some o ∧ o.cls = .type "list") : ∀ (x : PyData) (v : Value), nl x = true → RD h x v → RD h' x v
  | .none, _, _, e => e
  | .bool _, _, _, e => e
  | .int _, _, _, e => e
  | .str _, _, _, e => e
  | .list _, _, q, _ => by simp [nl] at q
  | .tuple xs, v, q, e => by
    obtain ⟨b, vs, hv, ⟨o, h1, h2, n, h3⟩, hr⟩ := e
    have hba : b ≠ a := fun z => by
      obtain ⟨o', k1, k2⟩ := ha
      rw [← z, h1] at k1; cases k1; rw [h2] at k2; injection k2 with k3; exact absurd k3 (by decide)
    exact ⟨b, vs, hv, ⟨o, he _ _ hba h1, h2, n, h3⟩, RDL.nlKeeps he ha xs vs (by simpa [nl] using q) hr⟩
  | .dict _, _, q, _ => by simp [nl] at q
theorem RDL.nlKeeps {h h' : Heap} {a : Addr} (he : Heap.ExtBut a h h') (ha : ∃ o, h.get? a = some o ∧ o.cls = .type "list") : ∀ (xs : List PyData) (vs : List Value), nlAll xs = true → RDL h xs vs → RDL h' xs vs
  | [], [], _, _ => trivial
  | x :: xs, v :: vs, q, e => by
    simp only [nlAll, Bool.and_eq_true] at q
    exact ⟨RD.nlKeeps he ha x v q.1 e.1, RDL.nlKeeps he ha xs vs q.2 e.2⟩
  | [], _ :: _, _, e => e.elim
  | _ :: _, [], _, e => e.elim
end
def okPV : PV → Prop
  | .d x => nl x = true
  | .o _ => True

section
variable {D : Wd} {n : Nat} {cs : Scope}

theorem FI.mut {cl : List (Str × Addr)} {h₀ h h' : Heap} {L a : Addr} {m : Str → Option Value} {ρ : Env1} {its : Array Value} (F : FI D cs cl h₀ L m h ρ) (he : Heap.ExtBut a h h') (ha : PlainL h a its)
    (hn : h₀.get? a = none) (hok : ∀ (i : Nat) pv, ρ[i]? = some (some pv) → okPV pv) : FI D cs cl h₀ L m h' ρ := by
  obtain ⟨oi, ni, ho, hcl, _, hd⟩ := ha
  have hL : a ≠ L := fun q => by
    obtain ⟨oL, es, ep, h1, h2, _⟩ := F.fr.ns
    rw [← q, ho] at h1; cases h1; rw [hd] at h2; cases h2
  have hc : ∀ x, cl.lookup x ≠ some a := fun x q => by
    obtain ⟨v₀, oc, h1, h2⟩ := F.cell x a q
    rw [ho] at h1; cases h1; rw [hd] at h2; cases h2
  have ck : ∀ x c v, cl.lookup x = some c → h.IsCell c v → h'.IsCell c v := fun x c v q ⟨o, h1, h2⟩ => ⟨o, he c o (fun z => hc x (z ▸ q)) h1, h2⟩
  refine ⟨F.gf, ⟨F.fr.ns.extBut he (Ne.symm hL), fun b o e => he b o (fun q => by rw [q, hn] at e; cases e) (F.fr.keep b o e), F.fr.above⟩, F.kind, F.nd, F.dbg, F.cnew, F.cinj, F.cellk, fun x c q => ?_, fun i x kd pv a' b => ?_⟩
  · obtain ⟨v₀, z⟩ := F.cell x c q; exact ⟨v₀, ck x c _ q z⟩
  · obtain ⟨v, r, y⟩ := F.rep i x kd pv a' b
    refine ⟨v, ?_, ?_⟩
    · have := hok i pv b
      cases pv with
      | o _ => exact r
      | d x => exact RD.nlKeeps he ⟨oi, ho, hcl⟩ x v this r
    · rcases y with y | ⟨y, c, y1, y2⟩
      · exact .inl y
      · exact .inr ⟨y, c, y1, ck x c _ y1 y2⟩

theorem StB.plainL {cl : List (Str × Addr)} {h₀ : Heap} {L a : Addr} {m : Str → Option Value} {ρ : Env1} {its : Array Value} {s s' : Shared} (t : StB cl L s s') (F : FI D cs cl h₀ L m s.heap ρ) (x : PlainL s.heap a its) : PlainL s'.heap a its := by
  obtain ⟨oi, ni, ho, hcl, hdd, hd⟩ := x
  refine ⟨oi, ni, t.keep a oi (fun q => ?_) (fun y q => ?_) ho, hcl, hdd, hd⟩
  · obtain ⟨oL, es, ep, h1, h2, _⟩ := F.fr.ns
    rw [← q, ho] at h1; cases h1; rw [hd] at h2; cases h2
  · obtain ⟨v₀, oc, h1, h2⟩ := F.cell y a q
    rw [ho] at h1; cases h1; rw [hd] at h2; cases h2

theorem nlAll_append : ∀ {xs ys : List PyData}, nlAll xs = true → nlAll ys = true → nlAll (xs ++ ys) = true
  | [], _, _, b => b
  | x :: xs, _, a, b => by
    simp only [nlAll, Bool.and_eq_true, List.cons_append] at a ⊢
    exact ⟨a.1, nlAll_append a.2 b⟩
theorem RDL.append {h : Heap} : ∀ {xs ys : List PyData} {vs us : List Value}, RDL h xs vs → RDL h ys us → RDL h (xs ++ ys) (vs ++ us)
  | [], _, [], _, _, b => b
  | _ :: xs, _, _ :: vs, _, a, b => ⟨a.1, RDL.append a.2 b⟩
  | [], _, _ :: _, _, a, _ => a.elim
  | _ :: _, _, [], _, a, _ => a.elim

theorem getV_in : ∀ {ρ : List (Option PV)} {i : Nat} {P : PV → Prop} {v : PV}, ρ[i]? = some (some v) → P v → getV ρ i P
  | [], i, _, _, h, _ => by simp at h
  | x :: r, 0, P, v, h, hp => by simp at h; subst h; exact hp
  | some _ :: r, i + 1, P, v, h, hp => getV_in (ρ := r) (by simpa using h) hp
  | none :: r, i + 1, P, v, h, hp => getV_in (ρ := r) (by simpa using h) hp

def rowsVC (ir io iw : Nat) (Wt : Env1 → (Bool → Prop) → Prop) (W1 W2 W3 : TrS) (W23 : Env1 → (List PV → Prop) → Prop) : TrS := fun ρ N R =>
  W23 ρ fun pvs => ∃ p2 p3, pvs = [p2, p3] ∧ ∃ I : Addr → Nat → List PyData → Env1 → Prop,
    (∀ a, ∃ k, I a k [] (setV (setV (setV ρ iw p3) io p2) ir (.o (.ref a)))) ∧
    ∀ a k xs ρ', I a k xs ρ' → Wt ρ' fun c =>
      (c = true → W1 ρ' (fun ρ1 => W2 ρ1 (fun ρ2 => W3 ρ2 (fun ρ3 => ρ3[ir]? = some (some (.o (.ref a))) ∧ (∀ (i : Nat) pv, ρ3[i]? = some (some pv) → okPV pv) ∧
          ∃ x, ρ3[iw]? = some (some (.d x)) ∧ xs.length ≤ 1000000 ∧ ∃ k', k' < k ∧ I a k' (xs ++ [x]) ρ3) R) R) R) ∧
      (c = false → ρ'[ir]? = some (some (.o (.ref a))) ∧ R (.d (.list xs)))

theorem SS.rows {es : List Expr} {t e2 e3 : Expr} {b1 b2 b3 : Stmt} {rowsN oldN newN : Str} {kk k' : Nat} {tpos vpos pos lpos p1 p2 p3 apos cpos epos wpos rpos : Pos} {ir io iw : Nat}
    {Wt : Env1 → (Bool → Prop) → Prop} {W1 W2 W3 : TrS} {W23 : Env1 → (List PV → Prop) → Prop}
    (hr : At cs rowsN ir .local) (ho : At cs oldN io .local) (hw : At cs newN iw .local) (h23 : SA D n cs [e2, e3] W23) (ht : ST D n cs t Wt) (h1 : S1 D n cs b1 W1) (h2 : S1 D n cs b2 W2) (h3 : S1 D n cs b3 W3)
    (hsw : ∀ env, swapsWithSole [.Tuple es kk tpos] (.Tuple [.List [] lpos, e2, e3] k' vpos) pos.line env = pure false)
    (hsn : ∀ (L : Addr) (a : Option Addr × Option Addr) (ccd : Value) (cn : Str) (cl : List (Str × Addr)), swappedStores [.Tuple es kk tpos] (.Tuple [.List [] lpos, e2, e3] k' vpos) (envG cn cs L a ccd cl) = pure (some [rowsN, oldN, newN]))
    (hst : ∀ env, starEach [.List [] lpos, e2, e3] env = (false, eval (.List [] lpos) env) :: starEach [e2, e3] env)
    (hbase : ∀ env, attributeBase (.Name rowsN p1) "append" env (eval (.Name rowsN p1) env) = eval (.Name rowsN p1) env)
    (hfew : ∀ env, ((backTo cpos (starEach [.Name newN p2] env)).all (fun x => !x.1) && (backToKw cpos (keywordEach [] env)).all (fun x => x.1.isSome)
      && decide (([.Name newN p2] : List Expr).length + ([] : List Keyword).length + (if ([] : List Keyword).isEmpty then 0 else 1) < 30)) = true)
    (hline : (apos.endLine == cpos.line) = true)
    (htrees : ∀ env, backTo cpos (starEach [.Name newN p2] env) = [(false, eval (.Name newN p2) env)])
    (hint : ∀ (L : Addr) (a : Option Addr × Option Addr) (ccd : Value) (cn : Str) (cl : List (Str × Addr)), interactive (envG cn cs L a ccd cl) = false)
    (hsw2 : ∀ env, swapsWith (.Call (.Attribute (.Name rowsN p1) "append" apos) [.Name newN p2] [] cpos) none epos.line env = pure false) :
    SS D n cs [.Assign [.Tuple es kk tpos] (.Tuple [.List [] lpos, e2, e3] k' vpos) pos,
      .While t [b1, b2, b3, .Expr (.Call (.Attribute (.Name rowsN p1) "append" apos) [.Name newN p2] [] cpos) epos] [] wpos, .Return (some (.Name rowsN p3)) rpos]
      (rowsVC ir io iw Wt W1 W2 W3 W23) := by
  intro A h₀ L a ccd cn cl m s ρ N R Q hA F hW hN hR
  refine wpAny_execs_cons ?_
  refine PyProof.Rows.Assign_Tuple_swapped ?_ (hsw _) (hsn _ _ _ _ _)
  refine Tuple_ ?_
  rw [hst]
  refine spliced_cons (x := eval (.List [] lpos) _) ?_
  refine List_ (spliced_nil ?_)
  refine wpAny_newObj_type ?_ (by show ([] : List Value).toArray.size ≤ sizeLine; rw [sizeLine_eq]; decide)
  generalize hL0 : s.heap.objs.size = la
  have hfresh : s.heap.get? la = none := by
    cases hq : s.heap.get? la with
    | none => rfl
    | some o => exact absurd (hL0 ▸ Heap.lt_size hq) (Nat.lt_irrefl _)
  have hfresh0 : h₀.get? la = none := by
    cases hq : h₀.get? la with
    | none => rfl
    | some o => rw [F.fr.keep _ _ hq] at hfresh; cases hfresh
  generalize hS0 : ({ s with heap := s.heap.push { cls := .type "list", data := .seq ([] : List Value).toArray } } : Shared) = s0
  have t0 : Stp s s0 := hS0 ▸ ⟨.push _ _, rfl, rfl, rfl⟩
  have hPL0 : PlainL s0.heap la #[] := by
    rw [← hS0, ← hL0]; exact ⟨_, 0, Heap.get?_push_size _ rfl, rfl, rfl, rfl⟩
  refine h23 A h₀ L a ccd cn cl m s0 ρ _ _ vpos hA (F.after t0.keep) hW fun pvs vs s₁ hp hrr hlen t₁ => ?_
  obtain ⟨q2, q3, rfl, I, hI0, turn⟩ := hp
  obtain ⟨v2, v3, rfl, rv2, rv3⟩ := RepL.two hrr
  generalize hws : [Value.ref la, v2, v3] = ws
  have hwl : ws.length = 3 := by rw [← hws]; rfl
  refine wpAny_newObj_type ?_ (by show ws.toArray.size ≤ sizeLine; rw [List.size_toArray, hwl, sizeLine_eq]; decide)
  have hT : IsTup (s₁.heap.push { cls := .type "tuple", data := .seq ws.toArray }) s₁.heap.objs.size ws.toArray := ⟨_, Heap.get?_push_size _ rfl, rfl, 0, rfl⟩
  rw [show [rowsN, oldN, newN].length = ws.toArray.size by rw [List.size_toArray, hwl]; rfl]
  refine unpackItems_tuple (s := { s₁ with heap := _ }) hA.handled hT fun h' he => ?_
  have kp : Keeps s₁.heap h' := (Keeps.push _ _).trans (extBut_keeps he)
  have hNA : NAt cs [newN, oldN, rowsN] [iw, io, ir] := .cons hw (.inl rfl) (.cons ho (.inl rfl) (.cons hr (.inl rfl) .nil))
  rw [show ws.toArray.toList = [Value.ref la, v2, v3] by rw [← hws]]
  refine names_sound (s := { s₁ with heap := h' }) (xs := [q3, q2, .o (.ref la)]) (N := fun ρ' => ρ' = setV (setV (setV ρ iw q3) io q2) ir (.o (.ref la))) hNA (F.after (t0.keep.trans (t₁.keep.trans kp))) ⟨rv3.keepsSeq kp.seq, rv2.keepsSeq kp.seq, rfl, trivial⟩ rfl fun ρ₂ m₂ s₂ hρ₂ F₂ t₂ => ?_
  subst hρ₂
  have hPL2 : PlainL s₂.heap la #[] := by
    refine t₂.plainL (F.after (t0.keep.trans (t₁.keep.trans kp))) ?_
    exact (hPL0.keeps t₁.keep).keeps kp
  have T2 : StB cl L s s₂ := ((t0.trans t₁).trans (.of kp)).toB.trans t₂
  clear hPL0 hS0 t0 rv2 rv3 hrr t₁ t₂ hT he kp
  -- the loop
  obtain ⟨k, hIk⟩ := hI0 la
  refine wpAny_execs_cons ?_
  refine wpAny_While (codeAny_whileLoop (A := A) (fun k s' => ∃ ρ' m' xs its, I la k xs ρ' ∧ FI D cs cl h₀ L m' s'.heap ρ' ∧ StB cl L s s' ∧ PlainL s'.heap la its ∧ RDL s'.heap xs its.toList ∧ nlAll xs = true) (fun k s' hs' => ?_) k
    ⟨_, m₂, [], #[], hIk, F₂, T2, hPL2, trivial, rfl⟩)
  obtain ⟨ρ', m', xs, its, hI', F', t', hPL', hrd', hnl'⟩ := hs'
  refine wpAny_mono (ht A h₀ L a ccd cn cl m' s' ρ' _ (fun c s₁ => (if c then wpAny (model D.prog D.w) A (execs [b1, b2, b3, .Expr (.Call (.Attribute (.Name rowsN p1) "append" apos) [.Name newN p2] [] cpos) epos] (envG cn cs L a ccd cl)) (fun f s₃ => match f with
            | .next | .cont => ∃ k', k' < k ∧ ∃ ρ' m' xs its, I la k' xs ρ' ∧ FI D cs cl h₀ L m' s₃.heap ρ' ∧ StB cl L s s₃ ∧ PlainL s₃.heap la its ∧ RDL s₃.heap xs its.toList ∧ nlAll xs = true
            | .brk => wpAny (model D.prog D.w) A (execs [.Return (some (.Name rowsN p3)) rpos] (envG cn cs L a ccd cl)) Q NoE s₃
            | .ret v => Q (.ret v) s₃) NoE s₁ else wpAny (model D.prog D.w) A (execs [.Return (some (.Name rowsN p3)) rpos] (envG cn cs L a ccd cl)) Q NoE s₁)) hA F' (turn la k xs ρ' hI') fun c s₁ hc t₁ => ?_) (fun c s₁ hc => ?_) fun _ _ x => x.elim
  · have F₁ := F'.after t₁.keep
    have hPL₁ := hPL'.keeps t₁.keep
    have hrd₁ := RDL.keeps t₁.keep hrd'
    have T₁ : StB cl L s s₁ := t'.trans t₁.toB
    cases c with
    | false =>
      obtain ⟨hir, hRx⟩ := hc.2 rfl
      rw [if_neg (by simp)]
      refine wpAny_execs_cons (wpAny_Return_some ?_)
      refine SE.var (D := D) (n := n) hr A h₀ L a ccd cn cl m' s₁ ρ' (fun pv => pv = .o (.ref la)) _ hA F₁ ?_ fun pv v' s₃ hpv hrep t₃ => ?_
      · exact getV_in hir rfl
      · subst hpv
        obtain rfl : v' = _ := hrep
        exact hR _ _ _ hRx ⟨la, its.toList, rfl, by simpa using (hPL₁.keeps t₃.keep).isList, RDL.keeps t₃.keep hrd₁⟩ (T₁.trans t₃.toB)
    | true =>
      rw [if_pos rfl]
      have RQ : ∀ (s₄ : Shared), StB cl L s s₄ → ∀ pv v s', R pv → RepV s'.heap pv v → StB cl L s₄ s' → Q (.ret v) s' := fun s₄ τ pv v s' hp hr τ' => hR pv v s' hp hr (τ.trans τ')
      refine wpAny_execs_cons (h1 A h₀ L a ccd cn cl m' s₁ ρ' _ _ _ hA F₁ (hc.1 rfl) (fun ρ1 m1 σ1 hw1 F1 τ1 => ?_) (RQ s₁ T₁))
      have hP1 := τ1.plainL F₁ hPL₁
      have hr1 := RDL.keepsSeq (τ1.seq F₁) _ _ hrd₁
      have T1 := T₁.trans τ1
      refine wpAny_execs_cons (h2 A h₀ L a ccd cn cl m1 σ1 ρ1 _ _ _ hA F1 hw1 (fun ρ2 m2 σ2 hw2 F2 τ2 => ?_) (RQ σ1 T1))
      have hP2 := τ2.plainL F1 hP1
      have hr2 := RDL.keepsSeq (τ2.seq F1) _ _ hr1
      have T2 := T1.trans τ2
      refine wpAny_execs_cons (h3 A h₀ L a ccd cn cl m2 σ2 ρ2 _ _ _ hA F2 hw2 (fun ρ3 m3 σ3 hw3 F3 τ3 => ?_) (RQ σ2 T2))
      have hP3 := τ3.plainL F2 hP2
      have hr3 := RDL.keepsSeq (τ3.seq F2) _ _ hr2
      have T3 := T2.trans τ3
      obtain ⟨hir, hok, x, hx, hlen, k₂, hk₂, hI₂⟩ := hw3
      refine wpAny_execs_cons (wpAny_Expr (wpAny_Call_append (hbase _) (hfew _) hline (htrees _) ?_) (hint _ _ _ _ _) (hsw2 _))
      refine SE.var (D := D) (n := n) hr A h₀ L a ccd cn cl m3 σ3 ρ3 (fun pv => pv = .o (.ref la)) _ hA F3 (getV_in hir rfl) fun pv v' σ4 hpv hrep t4 => ?_
      subst hpv
      obtain rfl : v' = _ := hrep
      refine ⟨la, its, rfl, hP3.keeps t4.keep, ?_⟩
      refine SE.var (D := D) (n := n) hw A h₀ L a ccd cn cl m3 σ4 ρ3 (fun pv => pv = .d x) _ hA (F3.after t4.keep) (getV_in hx rfl) fun pv y σ5 hpv hrep t5 => ?_
      subst hpv
      have hP5 := (hP3.keeps t4.keep).keeps t5.keep
      have F5 := (F3.after t4.keep).after t5.keep
      have hr5 := RDL.keeps t5.keep (RDL.keeps t4.keep hr3)
      have hnx : nl x = true := hok iw _ hx
      refine list_append_plainL hP5 (fun h' hP' hsb => ?_) ?_
      · show wpAny _ _ _ _ _ _
        obtain ⟨ol, nol, hol, holc, _, _⟩ := hP5
        have hal : ∃ o, σ5.heap.get? la = some o ∧ o.cls = .type "list" := ⟨ol, hol, holc⟩
        refine wpAny_execs_nil ?_
        refine ⟨k₂, hk₂, ρ3, m3, xs ++ [x], its.push y, hI₂, F5.mut hsb.extBut ⟨ol, nol, hol, holc, by assumption, by assumption⟩ hfresh0 hok, ?_, hP', ?_, nlAll_append hnl' (by simp [nlAll, hnx])⟩
        · have T5 := (T3.trans t4.toB).trans t5.toB
          exact ⟨fun b o hb hcb e => hsb.extBut b o (fun q => by rw [q, hfresh] at e; cases e) (T5.keep b o hb hcb e), T5.gens, T5.drawn, T5.os⟩
        · rw [Array.toList_push]
          exact RDL.append (RDL.nlKeeps hsb.extBut hal _ _ hnl' hr5) ⟨RD.nlKeeps hsb.extBut hal _ _ hnx hrep, trivial⟩
      · have := hr5.length
        have e2 : its.toList.length = its.size := by simp
        rw [sizeLine_eq]; omega
  · cases c with
    | false =>
      simp only [Bool.false_eq_true, if_false] at hc ⊢
      exact wpAny_execs_nil hc
    | true =>
      simp only [if_true] at hc ⊢
      exact wpAny_mono hc (fun f s₃ h₃ => by cases f <;> exact h₃) fun _ _ x => x.elim
end
end Mine

-- ---------- Plain4 ----------
set_option maxRecDepth 100000
set_option autoImplicit false
set_option linter.all false
namespace Mine
open PySem PySem.W PyProof.Rows PySem.Calls PySem.Spec

/-- the rows of the continued fraction -/
def rowsOf (a : Int) (b : Nat) (p0 q0 p1 q1 : Int) : List (Int × Int) :=
  if h : b = 0 then [] else
    (a / b * p1 + p0, a / b * q1 + q0) :: rowsOf b (a % b).toNat p1 q1 (a / b * p1 + p0) (a / b * q1 + q0)
termination_by b
decreasing_by
  have h1 := Int.emod_nonneg a (show (b : Int) ≠ 0 by omega)
  have h2 := Int.emod_lt_of_pos a (show (0 : Int) < b by omega)
  omega
def tup2 (x : Int × Int) : PyData := .tuple [.int x.1, .int x.2]
def tups (l : List (Int × Int)) : List PyData := l.map tup2
theorem rowsOf_zero {a p0 q0 p1 q1 : Int} : rowsOf a 0 p0 q0 p1 q1 = [] := by rw [rowsOf]; simp
theorem rowsOf_pos {a : Int} {b : Nat} {p0 q0 p1 q1 : Int} (h : b ≠ 0) : rowsOf a b p0 q0 p1 q1 =
    (a / b * p1 + p0, a / b * q1 + q0) :: rowsOf b (a % b).toNat p1 q1 (a / b * p1 + p0) (a / b * q1 + q0) := by rw [rowsOf]; simp [h]

theorem nb_lin {t p0 p1 : Int} {K : Nat} (ht : nb t.natAbs ≤ 400) (h0 : nb p0.natAbs ≤ K) (h1 : nb p1.natAbs ≤ K) : nb (t * p1 + p0).natAbs ≤ K + 401 := by
  refine nb_le ?_
  have a1 : (t * p1 + p0).natAbs ≤ t.natAbs * p1.natAbs + p0.natAbs := by
    rw [← Int.natAbs_mul]; exact Int.natAbs_add_le _ _
  have a2 : t.natAbs * p1.natAbs < 2 ^ (400 + K) := by
    have := nb_lt (t.natAbs * p1.natAbs)
    have b := nb_mul_le t.natAbs p1.natAbs
    exact Nat.lt_of_lt_of_le this (Nat.pow_le_pow_right (by decide) (by omega))
  have a3 : p0.natAbs < 2 ^ (400 + K) := Nat.lt_of_lt_of_le (nb_lt _) (Nat.pow_le_pow_right (by decide) (by omega))
  rw [show K + 401 = 400 + K + 1 by omega, Nat.pow_succ]; omega
theorem nb_ediv {a : Int} {b : Nat} {k : Nat} (ha : nb a.natAbs ≤ k) (hb : b ≠ 0) : nb (a / (b : Int)).natAbs ≤ k := by
  refine Nat.le_trans (nb_mono ?_) ha
  have hb' : (0 : Int) < b := by omega
  have h1 := Int.mul_ediv_add_emod a b
  have h2 := Int.emod_nonneg a (show (b : Int) ≠ 0 by omega)
  have h3 := Int.emod_lt_of_pos a hb'
  generalize a / (b : Int) = t at *
  generalize a % (b : Int) = r at *
  rcases Int.lt_or_le t 0 with q | q
  · have : (b : Int) * t ≤ t - b + 1 := by
      have e : (b : Int) * t - (t - b + 1) = ((b : Int) - 1) * (t + 1) := by rw [Int.sub_mul, Int.mul_add]; omega
      have : ((b : Int) - 1) * (t + 1) ≤ 0 := Int.mul_nonpos_of_nonneg_of_nonpos (by omega) (by omega)
      omega
    omega
  · have : t ≤ (b : Int) * t := by
      have e : (b : Int) * t - t = ((b : Int) - 1) * t := by rw [Int.sub_mul]; omega
      have : 0 ≤ ((b : Int) - 1) * t := Int.mul_nonneg (by omega) q
      omega
    omega
theorem nb_emod {a b : Nat} (hb : b ≠ 0) (h : b ≤ a) : nb (a % b) + 1 ≤ nb a := by
  have h1 := Nat.mod_lt a (Nat.pos_of_ne_zero hb)
  have h2 := Nat.div_add_mod a b
  have h3 : 1 ≤ a / b := (Nat.le_div_iff_mul_le (Nat.pos_of_ne_zero hb)).mpr (by omega)
  have h4 : b ≤ b * (a / b) := Nat.le_mul_of_pos_right _ h3
  have h5 : 2 * (a % b) ≤ a := by omega
  rcases Nat.eq_zero_or_pos (a % b) with q | q
  · rw [q, nb_zero]; exact nb_pos' (by omega)
  · have : nb (2 * (a % b)) = nb (a % b) + 1 := by rw [Nat.mul_comm]; exact nb_shl 1 (by omega)
    rw [← this]; exact nb_mono h5
end Mine

-- ---------- Fn8 ----------
set_option maxRecDepth 100000
set_option autoImplicit false
set_option linter.all false
set_option Elab.async false
set_option maxHeartbeats 4000000
namespace Mine
open PySem PySem.W PyProof.Rows PySem.Calls PySem.Spec

local macro_rules | `(tactic| walk_at "vc") => `(tactic| simp only [init, List.map_cons, List.map_nil, List.cons_append, List.nil_append, List.append_nil, List.length_cons, List.length_nil, List.replicate, List.replicate_zero, List.replicate_succ, List.reverse_cons, List.reverse_nil,
  Nat.reduceAdd, Nat.reduceSub, v_add, v_sub, v_mul, v_div, v_mod, v_shl, v_shr, v_and, v_xor, v_pow, v_iadd, v_isub, v_imul, v_ishl, v_ishr, v_ixor, v_tint, v_tbool, v_tnone, v_usub, v_unot, v_lt, v_le, v_gt, v_ge, v_eqi, v_nei, v_eqs, v_neb, v_eq4, v_in4, v_eq2,
  v_bits, v_get0, v_getS, v_set0, v_setS, v_all0, v_allS, v_sets0, v_setsS, v_nsets0, v_nsetsS, v_unt, v_unl, v_itl, v_it0, v_it1, v_it2, v_it3, v_int, v_abs, v_len, v_divmod, v_isint, v_shift,
  Bool.not_eq_true', Bool.not_eq_false', bne_iff_ne, ne_eq, bne_eq_false_iff_eq, Bool.not_true, Bool.not_false, decide_eq_true_eq, decide_eq_false_iff_not, true_and, and_true, forall_const, reduceCtorEq, false_implies, true_implies])
-- fsd: the plain goals of FS.def
local macro_rules | `(tactic| walk_at "fsd") => `(tactic| (
  (case ho => exact rfl)
  (case hcd => exact rfl)
  (case e1 => exact rfl)
  (case e2 => decide)
  (case e3 => decide)
  (case e10 => decide)
  (case e4 => decide)
  (case e5 => decide)
  (case e6 => exact rfl)
  (case e7 => exact rfl)
  (case e8 => exact rfl)
  (case e9 => exact rfl)
  skip))

section
variable {w : World} {p : Program} {loose : List Str} {mg mb : Str → Option Value} {n : Nat} {cs : Scope}

def okL : Env1 → Prop
  | [] => True
  | none :: r => okL r
  | some x :: r => okPV x ∧ okL r
theorem okL_get : ∀ {ρ : Env1}, okL ρ → ∀ (i : Nat) pv, ρ[i]? = some (some pv) → okPV pv
  | [], _, i, pv, h => by simp at h
  | none :: r, q, 0, pv, h => by simp at h
  | none :: r, q, i + 1, pv, h => okL_get (ρ := r) q i pv (by simpa using h)
  | some x :: r, q, 0, pv, h => by simp at h; subst h; exact q.1
  | some x :: r, q, i + 1, pv, h => okL_get (ρ := r) q.2 i pv (by simpa using h)
def C_row (pvs : List PV) (P : PV → Prop) : Prop := ∃ (a : Int) (b : Nat), pvs = [.d (.int a), .d (.int b)] ∧ nb a.natAbs ≤ 400 ∧ nb b ≤ 400 ∧ P (.d (.list (tups (rowsOf a b 0 1 1 0))))
theorem fs_ulaw_row_2 : FS (DD w p loose mg mb) (.ref 180) 1 C_row := by
  refine' FS.def (ps := [Str.ofString "above", Str.ofString "below"]) (k := 2) (dfl := []) ?ho ?hcd ?hb ?e1 ?e2 ?e3 ?e10 ?e4 ?e5 ?e6 ?e7 ?e8 ?hS ?e9 ?hl ?hC
  walk_at "fsd"
  case hb => intro s vs G hl; match vs, hl with
    | [_, _], _ => exact ⟨[], .of_eq rfl, trivial⟩
  case hS => exact (SS.rows (ir := 2) (io := 3) (iw := 4) rfl rfl rfl (SA.cons (SE.tuple (SA.cons SE.int (SA.cons SE.int SA.nil (fun _ => rfl)) (fun _ => rfl)) (by decide)) (SA.cons (SE.tuple (SA.cons SE.int (SA.cons SE.int SA.nil (fun _ => rfl)) (fun _ => rfl)) (by decide)) SA.nil (fun _ => rfl)) (fun _ => rfl)) (ST.cmp (SE.varL 1 rfl) SE.int rfl)
 (S1.assign (i := 5) (SE.bin (SE.varL 0 rfl) (SE.varL 1 rfl)) rfl (.inl rfl) (fun _ => rfl))
 (S1.swap (names := [Str.ofString "above", Str.ofString "below"]) (SA.cons (SE.varL 1 rfl) (SA.cons (SE.bin (SE.varL 0 rfl) (SE.bin (SE.varL 5 rfl) (SE.varL 1 rfl))) SA.nil (fun _ => rfl)) (fun _ => rfl)) (NAt.cons (i := 1) rfl (.inl rfl) (NAt.cons (i := 0) rfl (.inl rfl) NAt.nil)) rfl (by decide) (fun _ => rfl) (fun _ _ _ _ _ => rfl))
 (S1.swap (names := [Str.ofString "old", Str.ofString "new"]) (SA.cons (SE.varL 4 rfl) (SA.cons (SE.tuple (SA.cons (SE.bin (SE.bin (SE.varL 5 rfl) (SE.item (SE.varL 4 rfl) SE.int (fun _ _ => by with_unfolding_all rfl))) (SE.item (SE.varL 3 rfl) SE.int (fun _ _ => by with_unfolding_all rfl))) (SA.cons (SE.bin (SE.bin (SE.varL 5 rfl) (SE.item (SE.varL 4 rfl) SE.int (fun _ _ => by with_unfolding_all rfl))) (SE.item (SE.varL 3 rfl) SE.int (fun _ _ => by with_unfolding_all rfl))) SA.nil (fun _ => rfl)) (fun _ => rfl)) (by decide)) SA.nil (fun _ => rfl)) (fun _ => rfl)) (NAt.cons (i := 4) rfl (.inl rfl) (NAt.cons (i := 3) rfl (.inl rfl) NAt.nil)) rfl (by decide) (fun _ => rfl) (fun _ _ _ _ _ => rfl))
 (fun _ => rfl) (fun _ _ _ _ _ => rfl) (fun _ => rfl) (fun _ => rfl) (fun _ => rfl) rfl (fun _ => rfl) (fun _ _ _ _ _ => rfl) (fun _ => rfl))
  case hl => rintro pvs P ⟨_, _, rfl, _⟩; rfl
  case hC =>
    rintro pvs P ⟨a, b, rfl, ha, hb, h⟩
    unfold rowsVC
    walk_at "vc"
    refine ⟨_, _, rfl, fun adr k xs ρ' => ∃ (a' : Int) (b' : Nat) (p0 q0 p1 q1 : Int) (tm : Option PV), b' = k ∧ ρ' = [some (.d (.int a')), some (.d (.int b')), some (.o (.ref adr)), some (.d (.tuple [.int p0, .int q0])), some (.d (.tuple [.int p1, .int q1])), tm] ∧
        (∀ x, tm = some x → okPV x) ∧ xs ++ tups (rowsOf a' b' p0 q0 p1 q1) = tups (rowsOf a b 0 1 1 0) ∧ nb a'.natAbs ≤ 400 ∧ nb b' ≤ 400 ∧ (xs.length = 0 ∨ (b' ≤ a' ∧ xs.length + nb a'.natAbs + nb b' ≤ 802)) ∧
        nb p0.natAbs ≤ 1 + 401 * xs.length ∧ nb q0.natAbs ≤ 1 + 401 * xs.length ∧ nb p1.natAbs ≤ 1 + 401 * xs.length ∧ nb q1.natAbs ≤ 1 + 401 * xs.length,
      fun adr => ⟨b, a, b, 0, 1, 1, 0, none, rfl, rfl, fun _ q => (nomatch q), rfl, ha, hb, .inl rfl, by decide, by decide, by decide, by decide⟩, ?_⟩
    rintro adr k xs ρ' ⟨a', b', p0, q0, p1, q1, tm, rfl, rfl, htm, hxs, ha', hb', hlen, h0, h1, h2, h3⟩
    walk_at "vc"
    refine ⟨fun hpos => ?_, fun hz => ?_⟩
    · have hb0 : b' ≠ 0 := by omega
      have hx802 : xs.length ≤ 802 := by omega
      rw [rowsOf_pos hb0] at hxs
      have hq : (a' : Int).fdiv (b' : Int) = a' / (b' : Int) := Int.fdiv_eq_ediv_of_nonneg _ (by omega)
      have hnt := nb_ediv ha' hb0
      have hmul : ∀ z : Int, nb z.natAbs ≤ 500000 → IntMulOk (a' / (b' : Int)) z := fun z hz => by
        have e : (2 : Nat) ^ 20 = 1048576 := by decide
        refine IntMulOk.of_bits ?_ ?_ <;> rw [intBits_abs] <;> omega
      have hmod : a' - a' / (b' : Int) * b' = (((a' % (b' : Int)).toNat : Nat) : Int) := by
        rw [Int.toNat_of_nonneg (Int.emod_nonneg _ (by omega)), Int.mul_comm]
        have := Int.mul_ediv_add_emod a' b'
        omega
      have hmlt : (a' % (b' : Int)).toNat < b' := by
        have := Int.emod_lt_of_pos a' (show (0 : Int) < b' by omega); omega
      rw [hq, hmod]
      generalize hr : (a' % (b' : Int)).toNat = r at *
      generalize a' / (b' : Int) = t at *
      have hbr : nb r ≤ nb b' := nb_mono (Nat.le_of_lt hmlt)
      refine ⟨by omega, noPy (by omega), hmul _ (by rw [Int.natAbs_natCast]; omega), hmul _ (by omega), hmul _ (by omega), rfl, ?_, _, rfl, by omega, r, hmlt, b', r, p1, q1, _, _, some (.d (.int t)), rfl, rfl, ?_, ?_, ?_, by omega, .inr ⟨by omega, ?_⟩, ?_, ?_, ?_, ?_⟩
      · exact okL_get (by simp [okL, okPV, nl, nlAll])
      · rintro x hx; cases hx; rfl
      · rw [List.append_assoc]; exact hxs
      · rw [Int.natAbs_natCast]; exact hb'
      · rw [List.length_append, List.length_singleton, Int.natAbs_natCast]
        rcases hlen with q | ⟨q1, q2⟩
        · omega
        · obtain ⟨u, rfl⟩ := Int.eq_ofNat_of_zero_le (show 0 ≤ a' by omega)
          have e : r = u % b' := by rw [← hr]; norm_cast
          have := nb_emod hb0 (show b' ≤ u by omega)
          rw [Int.natAbs_natCast] at q2
          rw [e]; omega
      all_goals rw [List.length_append, List.length_singleton]
      · omega
      · omega
      · have := nb_lin hnt h0 h2; omega
      · have := nb_lin hnt h1 h3; omega
    · obtain rfl : b' = 0 := by omega
      rw [rowsOf_zero] at hxs
      refine ⟨rfl, ?_⟩
      rw [← hxs] at h
      simpa [tups] using h
end
end Mine

-- ---------- BaseC ----------
set_option maxRecDepth 100000
set_option autoImplicit false
set_option linter.all false
set_option maxHeartbeats 400000
namespace Mine
open PySem PySem.W PyProof.Rows PySem.Calls PySem.Spec

/-! ## list comprehensions -/

theorem closure_go {env : Env} : ∀ (l : List (Str × NameKind)) (acc : List (Str × Addr)), (∀ y ∈ l, y.2 = .free → ∃ c, env.cells.lookup y.1 = some c) → (∀ y c, acc.lookup y = some c → env.cells.lookup y = some c) →
    ∃ cl', (forIn l acc fun (x : Str × NameKind) (cs : List (Str × Addr)) => (match x with | (name, kind) => if (kind == .free) = true then do let c ← cellOf env name; pure (ForInStep.yield ((name, c) :: cs)) else pure (ForInStep.yield cs) : Sem (ForInStep (List (Str × Addr))))) = pure cl' ∧
      (∀ y c, cl'.lookup y = some c → env.cells.lookup y = some c) ∧ (∀ y c, acc.lookup y = some c → ∃ c', cl'.lookup y = some c') ∧ ∀ y ∈ l, y.2 = .free → ∃ c, cl'.lookup y.1 = some c
  | [], acc, _, h2 => ⟨acc, by simp, h2, fun y c h => ⟨c, h⟩, fun _ h => by simp at h⟩
  | (nm, kd) :: l, acc, h1, h2 => by
    by_cases hk : (kd == NameKind.free) = true
    · have hk' : kd = .free := by simpa using hk
      obtain ⟨c, hc⟩ := h1 (nm, kd) (.head _) hk'
      obtain ⟨cl', e, q1, q2, q3⟩ := closure_go l ((nm, c) :: acc) (fun y hy => h1 y (.tail _ hy)) (fun y c' h => by
        rw [List.lookup_cons] at h
        split at h
        · rename_i hb; cases h; rw [show y = nm by simpa using hb]; exact hc
        · exact h2 y c' h)
      refine ⟨cl', ?_, q1, fun y c' h => ?_, fun y hy hf => ?_⟩
      · rw [List.forIn_cons]
        have hc' : cellOf env nm = pure c := by unfold cellOf; rw [hc]
        simp only [hk, if_true, hc']
        simpa using e
      · by_cases hb : y = nm
        · subst hb; exact q2 y c (by simp)
        · exact q2 y c' (by rw [List.lookup_cons, show (y == nm) = false from beq_eq_false_iff_ne.mpr hb]; exact h)
      · cases hy with
        | head => exact q2 nm c (by simp)
        | tail _ hy => exact q3 y hy hf
    · obtain ⟨cl', e, q1, q2, q3⟩ := closure_go l acc (fun y hy => h1 y (.tail _ hy)) h2
      refine ⟨cl', ?_, q1, q2, fun y hy hf => ?_⟩
      · rw [List.forIn_cons]
        simp only [hk, if_false]
        simpa using e
      · cases hy with
        | head => exact absurd (by simpa using hf) hk
        | tail _ hy => exact q3 y hy hf

theorem closure_of {env : Env} {scope : Scope} (h : ∀ y ∈ scope.names, y.2 = .free → ∃ c, env.cells.lookup y.1 = some c) :
    ∃ cl', closureFor scope env = pure cl' ∧ (∀ y c, cl'.lookup y = some c → env.cells.lookup y = some c) ∧ ∀ y ∈ scope.names, y.2 = .free → ∃ c, cl'.lookup y.1 = some c := by
  obtain ⟨cl', e, q1, _, q3⟩ := closure_go scope.names [] h (fun _ _ q => by simp at q)
  refine ⟨cl', ?_, q1, q3⟩
  unfold closureFor
  exact (congrArg (· >>= pure) e).trans (by simp)

/-- the names of the block at its start -/
def innerρ (js : List (Option Nat)) (ρ : Env1) : Env1 := js.map fun o => o.bind fun j => (ρ[j]?).join

section
variable {D : Wd} {n : Nat} {cs : Scope}

theorem FI.inner {cs' : Scope} {cl cl' : List (Str × Addr)} {h₀ h H : Heap} {L C : Addr} {m m' : Str → Option Value} {ρ : Env1} {js : List (Option Nat)} {ix : Nat} {x : Str} {pvx : PV} {v : Value}
    (F : FI D cs cl h₀ L m h ρ) (k : Keeps h H) (hns : H.Ns C m') (hC : h.objs.size ≤ C) (hkind : cs'.kind = .function) (hnd : (cs'.names.map (·.1)).Nodup)
    (hdbg : cs'.names.all (fun q => !(q.1 == ("__debug__" : Str)) && !(q.1 == ("__classdict__" : Str))) = true)
    (hsub : ∀ y c, cl'.lookup y = some c → cl.lookup y = some c) (hck : ∀ y, cs'.names.lookup y = some .cell → ∃ c, cl'.lookup y = some c)
    (hjs : ∀ (i : Nat) y kd j, cs'.names[i]? = some (y, kd) → js[i]? = some (some j) → kd = .cell ∧ At cs y j .cell)
    (hx : At cs' x ix .local) (hmx : m' x = some v) (hr : RepV H pvx v) : FI D cs' cl' h₀ C m' H (setV (innerρ js ρ) ix pvx) := by
  have hCn : ∀ y c, cl'.lookup y = some c → c ≠ C := fun y c q e => by
    obtain ⟨v₀, o, h1, _⟩ := F.cell y c (hsub y c q)
    exact Nat.ne_of_lt (Nat.lt_of_lt_of_le (Heap.lt_size h1) hC) e
  refine ⟨F.gf, ⟨hns, Keeps.trans F.fr.keep k, ?_⟩, hkind, hnd, hdbg, fun y c q => ⟨(F.cnew y c (hsub y c q)).1, hCn y c q⟩, fun y z c q r => F.cinj y z c (hsub y c q) (hsub z c r), hck,
    fun y c q => let ⟨v₀, o, h1, h2⟩ := F.cell y c (hsub y c q); ⟨v₀, o, k _ _ h1, h2⟩, fun i y kd pv hi hp => ?_⟩
  · have h1 := F.fr.above
    obtain ⟨oL, es, ep, h2, _⟩ := F.fr.ns
    exact Nat.le_trans h1 (Nat.le_trans (Nat.le_of_lt (Heap.lt_size h2)) hC)
  · rcases setV_get hp with ⟨rfl, e⟩ | ⟨hne, e⟩
    · cases e
      obtain ⟨rfl, rfl⟩ : x = y ∧ NameKind.local = kd := by have := hx.symm.trans hi; simpa using this
      exact ⟨v, hr, .inl ⟨rfl, hmx⟩⟩
    · unfold innerρ at e
      rw [List.getElem?_map] at e
      cases hj : js[i]? with
      | none => rw [hj] at e; cases e
      | some o =>
        cases o with
        | none => rw [hj] at e; simp at e
        | some j =>
          rw [hj] at e
          simp only [Option.map_some, Option.bind_some, Option.some.injEq] at e
          obtain ⟨rfl, hat⟩ := hjs i y kd j hi hj
          have e' : ρ[j]? = some (some pv) := by
            cases hq : ρ[j]? with
            | none => rw [hq] at e; cases e
            | some z => rw [hq] at e; simp only [Option.join_some] at e; rw [e]
          obtain ⟨u, ru, yu⟩ := F.rep j y .cell pv hat e'
          refine ⟨u, ru.keepsSeq k.seq, ?_⟩
          rcases yu with ⟨q, _⟩ | ⟨_, c, h1, h2⟩
          · cases q
          · obtain ⟨c', hc'⟩ := hck y (lookup_of_get hnd hi)
            have : c' = c := by have := hsub y c' hc'; rw [h1] at this; exact (Option.some.inj this).symm
            subst this
            exact .inr ⟨.inl rfl, c', hc', IsCell_keeps k h2⟩

def itemsVC : PV → (List PyData → Prop) → Prop
  | .d (.list xs), P => P xs
  | .d (.str t), P => t.cps.all (· < 128) = true ∧ P (t.cps.toList.map fun c => .str ⟨#[c]⟩)
  | _, _ => False

theorem pyIter_items {pv : PV} {v : Value} {Pi : List PyData → Prop} {A : Around} {s₁ : Shared} {Q : Value → Shared → Prop} (hA : A.handled = none) (h : itemsVC pv Pi) (hr : RepV s₁.heap pv v)
    (hQ : ∀ (xs : List PyData) (I : Addr) (fp : List Addr) (Pp : Nat → Value → Prop) (St : Nat → Heap → Prop) (s₂ : Shared), Pi xs → Walks D.prog D.w A I fp [I] xs.length Pp St → St 0 s₂.heap → (∀ b ∈ fp, b < s₂.heap.objs.size) → s₁.heap.get? I = none → s₁.heap.objs.size ≤ I →
      I < s₂.heap.objs.size → Stp s₁ s₂ → (∀ i v, Pp i v → ∃ it, xs[i]? = some it ∧ ∀ H, Keeps s₁.heap H → RD H it v) → (∀ i h, St i h → ∃ o vs, h.get? I = some o ∧ o.data = .fields vs) → Q (.ref I) s₂) :
    wpAny (model D.prog D.w) A (pyIter v) Q NoE s₁ := by
  have fresh : s₁.heap.get? s₁.heap.objs.size = none := by
    cases hq : s₁.heap.get? s₁.heap.objs.size with
    | none => rfl
    | some o => exact absurd (Heap.lt_size hq) (Nat.lt_irrefl _)
  unfold itemsVC at h
  split at h
  · rename_i xs
    obtain ⟨a, vs, rfl, hl, hd⟩ := hr
    have hax : a < s₁.heap.objs.size := by obtain ⟨o, ho, _⟩ := hl; exact Heap.lt_size ho
    have hlen := hd.length
    refine wpAny_pyIter_list hl ?_
    have W := Walks.list (prog := D.prog) (w := D.w) hA s₁.heap.objs.size a (Nat.ne_of_lt hax) vs.toArray
    rw [show vs.toArray.size = xs.length by rw [List.size_toArray, hlen]] at W
    refine hQ xs s₁.heap.objs.size _ _ _ { s₁ with heap := _ } h W ⟨⟨_, Heap.get?_push_size _ rfl, rfl, rfl⟩, hl.push _⟩ ?_ fresh (Nat.le_refl _) ?_ ⟨.push _ _, rfl, rfl, rfl⟩ ?_ ?_
    · intro b hb
      show b < (Heap.push _ _).objs.size
      rw [Heap.size_push]
      rcases List.mem_cons.mp hb with rfl | hb
      · exact Nat.lt_succ_self _
      · rw [List.mem_singleton.mp hb]; exact Nat.lt_succ_of_lt hax
    · show _ < (Heap.push _ _).objs.size
      rw [Heap.size_push]; exact Nat.lt_succ_self _
    · intro i v hv
      have hv' : vs[i]? = some v := by simpa using hv
      have hlt : i < xs.length := by rw [hlen]; exact (List.getElem?_eq_some_iff.mp hv').1
      refine ⟨xs[i], by simp [hlt], fun H k => ?_⟩
      obtain ⟨u, hu, ru⟩ := hd.get i (p := xs[i]) (by simp [hlt])
      rw [hv'] at hu; cases hu
      exact ru.keeps k
    · rintro i h ⟨⟨o, ho, _, hd⟩, _⟩; exact ⟨o, _, ho, hd⟩
  · rename_i t
    obtain ⟨ha, h⟩ := h
    obtain ⟨tk, rfl⟩ := hr
    refine wpAny_pyIter_ascii ha ?_
    have W := Walks.strAscii (prog := D.prog) (w := D.w) hA s₁.heap.objs.size t tk
    rw [show t.cps.size = (t.cps.toList.map fun c => PyData.str ⟨#[c]⟩).length by simp] at W
    refine hQ _ s₁.heap.objs.size _ _ _ { s₁ with heap := _ } h W ⟨_, Heap.get?_push_size _ rfl, rfl, rfl⟩ ?_ fresh (Nat.le_refl _) ?_ ⟨.push _ _, rfl, rfl, rfl⟩ ?_ ?_
    · intro b hb
      show b < (Heap.push _ _).objs.size
      rw [Heap.size_push]
      rw [List.mem_singleton.mp hb]; exact Nat.lt_succ_self _
    · show _ < (Heap.push _ _).objs.size
      rw [Heap.size_push]; exact Nat.lt_succ_self _
    · rintro i v ⟨c, u, hc, rfl⟩
      refine ⟨.str ⟨#[c]⟩, by simpa using hc, fun H k => ⟨u, rfl⟩⟩
    · rintro i h ⟨o, ho, _, hd⟩; exact ⟨o, _, ho, hd⟩
  · exact h.elim

def itemEnv (js : List (Option Nat)) (ix : Nat) (ρ : Env1) (it : PyData) : Env1 := setV (innerρ js ρ) ix (.d it)
def compVC (js : List (Option Nat)) (ix : Nat) (Wt : Env1 → (Bool → Prop) → Prop) (We : Env1 → (PV → Prop) → Prop) (ρ : Env1) (P : PV → Prop) (v : PV) : Prop :=
  itemsVC v fun xs => xs.length ≤ 1000000 ∧ ∃ J : Nat → List PyData → Prop, J 0 [] ∧
    (∀ i acc it, xs[i]? = some it → J i acc → Wt (itemEnv js ix ρ it) fun c => (c = true → We (itemEnv js ix ρ it) fun r => ∃ y, r = .d y ∧ nl y = true ∧ J (i + 1) (acc ++ [y])) ∧ (c = false → J (i + 1) acc)) ∧
    ∀ acc, J xs.length acc → P (.d (.list acc))

def TestsOk (D : Wd) (n : Nat) (cs' : Scope) (ifs : List Expr) (Wt : Env1 → (Bool → Prop) → Prop) : Prop :=
  ∀ (A : Around) (h₀ : Heap) (L : Addr) (a : Option Addr × Option Addr) (ccd : Value) (cn : Str) (cl : List (Str × Addr)) (m : Str → Option Value) (s : Shared) (ρ : Env1) (P : Bool → Prop) (Q : Bool → Shared → Prop),
    Room A n → FI D cs' cl h₀ L m s.heap ρ → Wt ρ P → (∀ c s', P c → Stp s s' → Q c s') →
    wpAny (model D.prog D.w) A (forIn ifs true fun c r => if r = true then do let ok ← isTrue c (envG cn cs' L a ccd cl) (eval c (envG cn cs' L a ccd cl)); pure (ForInStep.yield ok) else pure (ForInStep.yield r)) Q NoE s
theorem TestsOk.nil {cs' : Scope} : TestsOk D n cs' [] (fun _ P => P true) := by
  intro A h₀ L a ccd cn cl m s ρ P Q hA F hW hQ
  exact wpAny_tests_nil (hQ _ _ hW (.refl _))
theorem TestsOk.one {cs' : Scope} {c : Expr} {Wt : Env1 → (Bool → Prop) → Prop} (h : ST D n cs' c Wt) : TestsOk D n cs' [c] Wt := by
  intro A h₀ L a ccd cn cl m s ρ P Q hA F hW hQ
  exact wpAny_tests_one (h A h₀ L a ccd cn cl m s ρ P Q hA F hW hQ)

/-- the block's scope, its captured names marked -/
def relab (scope cs : Scope) : Scope :=
  { scope with names := scope.names.map fun (n, k) => if (k == .free && cs.kind == .function && cs.names.lookup n == some .cell) then (n, .cell) else (n, k) }
theorem relab_eq {scope cs : Scope} {q : Str} {L : Addr} {a : Option Addr × Option Addr} {ccd : Value} {cl : List (Str × Addr)} : relabel scope (envG q cs L a ccd cl) = relab scope cs := rfl
def jsOk (cs' cs : Scope) (js : List (Option Nat)) : Bool := (cs'.names.zip js).all fun p => match p.2 with
  | none => true
  | some j => decide (p.1.2 = .cell) && decide (cs.names[j]? = some (p.1.1, .cell))
theorem jsOk_get {cs' cs : Scope} {js : List (Option Nat)} (h : jsOk cs' cs js = true) (i : Nat) (y : Str) (kd : NameKind) (j : Nat) (h1 : cs'.names[i]? = some (y, kd)) (h2 : js[i]? = some (some j)) : kd = .cell ∧ At cs y j .cell := by
  have hm : ((y, kd), some j) ∈ cs'.names.zip js := List.mem_of_getElem? (i := i) (by rw [List.getElem?_zip_eq_some]; exact ⟨h1, h2⟩)
  have := List.all_eq_true.mp h _ hm
  simpa [At] using this
def blockOk (scope cs : Scope) : Bool :=
  (scope.names.all fun y => (decide (y.2 = .local → scope.names.lookup y.1 = some .local)) && decide (y.2 ≠ .cell) && decide (y.2 = .free → cs.names.lookup y.1 = some .cell)) &&
  decide (((relab scope cs).names.map (·.1)).Nodup) && ((relab scope cs).names.all fun y => decide (y.2 = .cell → (y.1, NameKind.free) ∈ scope.names))

theorem SE.listComp {elt iter : Expr} {x : Str} {px pos : Pos} {ifs : List Expr} {scope : Scope} {ix : Nat} {js : List (Option Nat)} {Wi We : Env1 → (PV → Prop) → Prop} {Wt : Env1 → (Bool → Prop) → Prop}
    (hi : SE D n cs iter Wi) (ht : TestsOk D n (relab scope cs) ifs Wt) (he : SE D n (relab scope cs) elt We)
    (hkind : scope.kind = .function) (hblk : blockOk scope cs = true) (hdbg : (relab scope cs).names.all (fun q => !(q.1 == ("__debug__" : Str)) && !(q.1 == ("__classdict__" : Str))) = true)
    (hjs' : jsOk (relab scope cs) cs js = true) (hx : At (relab scope cs) x ix .local)
    (hset : ∀ env v, foldedSetIterable iter env v = pure v) :
    SE D n cs (.ListComp elt [⟨.Name x px, iter, ifs, 0⟩] scope pos) (fun ρ P => Wi ρ fun v => compVC js ix Wt We ρ P v) := by
  obtain ⟨cs', hcs'⟩ : ∃ cs', cs' = relab scope cs := ⟨_, rfl⟩
  have hcs : ∀ (q : Str) (L : Addr) (a : Option Addr × Option Addr) (ccd : Value) (cl : List (Str × Addr)), relabel scope (envG q cs L a ccd cl) = cs' := fun _ _ _ _ _ => hcs' ▸ rfl
  have hkind' : cs'.kind = .function := hcs' ▸ hkind
  unfold blockOk at hblk
  simp only [Bool.and_eq_true, List.all_eq_true, decide_eq_true_eq] at hblk
  obtain ⟨⟨hb1, hnd⟩, hck⟩ := hblk
  have hjs := jsOk_get hjs'
  rw [← hcs'] at ht he hnd hdbg hck hjs hx
  have hnames : ∀ y ∈ scope.names, y.2 = .local → scope.names.lookup y.1 = some .local := fun y hy => (hb1 y hy).1.1
  have hcell : ∀ y ∈ scope.names, y.2 ≠ .cell := fun y hy => (hb1 y hy).1.2
  have hfr : ∀ y ∈ scope.names, y.2 = .free → cs.names.lookup y.1 = some .cell := fun y hy => (hb1 y hy).2
  clear hjs' hb1
  intro A h₀ L a ccd cn cl m s ρ P Q hA F hW hQ
  rw [eval_ListComp]
  obtain ⟨cl', hclos, hsub, hfrees⟩ := closure_of (env := envG cn cs L a ccd cl) (scope := scope) fun y hy hf => F.cellk y.1 (hfr y hy hf)
  have hckl : ∀ y, cs'.names.lookup y = some .cell → ∃ c, cl'.lookup y = some c := fun y hy => hfrees (y, .free) (hck (y, .cell) (lookup_mem hy) rfl) rfl
  refine wpAny_comprehension_free (use := Option.none) rfl (hset _) hclos hkind hnames ?_
  refine hi A h₀ L a ccd cn cl m s ρ _ _ hA F hW fun pv v s₁ hv hr t₁ => ?_
  unfold compVC at hv
  refine pyIter_items hA.handled hv hr fun xs I fp Pp St s₂ hx1 W hst hfp hIn hI1 hIlt t₂ hPp hSt => ?_
  obtain ⟨hxl, J, hJ0, turn, fin⟩ := hx1
  have F₁ := F.after t₁.keep
  refine wpAny_newObj_type (wpAny_newFunctionEnv hcell (by intro y hy; simp at hy) (fun h₁ hns₁ hsb₁ => ?_) hkind) (by show (0 : Nat) ≤ sizeLine; exact Nat.zero_le _)
  dsimp only at hns₁ hsb₁ ⊢
  generalize hH2 : s₂.heap.push { cls := .type "list", dict := Option.none, data := .seq ([] : List Value).toArray } = H2 at hns₁ hsb₁ ⊢
  generalize hDD : s₂.heap.objs.size = Da at *
  generalize hCC : H2.objs.size = Ca at *
  have hC : Ca = Da + 1 := by rw [← hCC, ← hH2, Heap.size_push, hDD]
  have hDC : Da ≠ Ca := by rw [hC]; exact Nat.ne_of_lt (Nat.lt_succ_self _)
  have lt2 : ∀ {b o}, s₂.heap.get? b = some o → b < Da := fun {b o} e => hDD ▸ Heap.lt_size e
  have nDC : ∀ b, b < Da → b ≠ Da ∧ b ≠ Ca := fun b hb => ⟨Nat.ne_of_lt hb, by rw [hC]; exact Nat.ne_of_lt (Nat.lt_succ_of_lt hb)⟩
  have old : Keeps s₂.heap h₁ := fun b o e => hsb₁.extBut b o (nDC b (lt2 e)).2 (Heap.get?_push_of_some _ (hH2 ▸ Heap.get?_push_of_some _ e))
  have hacc : PlainL h₁ Da #[] := by
    refine ⟨{ cls := .type "list", dict := Option.none, data := .seq #[] }, 0, hsb₁.extBut _ _ hDC (Heap.get?_push_of_some _ ?_), rfl, rfl, rfl⟩
    rw [← hH2, ← hDD]; exact Heap.get?_push_size _ rfl
  have hst₁ : St 0 h₁ := W.frame _ _ _ hst fun b _ o e => old b o e
  have sz1 : s₁.heap.objs.size ≤ Ca := by
    have := Nat.lt_of_le_of_lt hI1 hIlt
    rw [hC]; exact Nat.le_succ_of_le (Nat.le_of_lt this)
  have hxl' : cs'.names.lookup x = some .local := lookup_of_get hnd hx
  have henv : ∀ C, ({ scope := relabel scope (envG cn cs L a ccd cl), locals := C, globals := mainGlobals, cells := cl', qual := cn, func := Option.none, code := ccd, frame := a.2, builtins := builtinsNs } : Env) = envG cn cs' C (Option.none, a.2) ccd cl' := fun C => by rw [hcs]
  have loop : ∀ s₃ : Shared, s₃ = { s₂ with heap := h₁, toks := s₂.toks + ([] : List (Str × Value)).length } →
      codeAny (model D.prog D.w) A (.compLoop (.ListComp elt [⟨.Name x px, iter, ifs, 0⟩] scope pos) 0 (.ref I) (.ref Da) (envG cn cs' Ca (Option.none, a.2) ccd cl'))
        (compPost (model D.prog D.w) A NoE Option.none Q (.ref Da) Ca) s₃ := by
    rintro s₃ rfl
    refine codeAny_compLoop_tests (fun k s' => ∃ i m' acc its, k = xs.length + 1 - i ∧ i ≤ xs.length ∧ J i acc ∧ s'.heap.Ns Ca m' ∧ PlainL s'.heap Da its ∧ RDL s'.heap acc its.toList ∧ nlAll acc = true ∧ acc.length ≤ i ∧ St i s'.heap ∧
        (∀ b o, b ≠ I → s₂.heap.get? b = some o → s'.heap.get? b = some o) ∧ s'.gens = s₂.gens ∧ s'.drawn = s₂.drawn ∧ s'.os = s₂.os) ?_ (xs.length + 1)
      ⟨0, _, [], #[], rfl, Nat.zero_le _, hJ0, hns₁, hacc, trivial, rfl, Nat.le_refl _, hst₁, fun b o _ e => old b o e, rfl, rfl, rfl⟩
    rintro k s' ⟨i, m', acc, its, rfl, hi', hJ, hn', hl', hrd', hnl', hlen', hst', hk', hg', hd', ho'⟩
    have k1 : ∀ {H : Heap}, (∀ b o, b ≠ I → s₂.heap.get? b = some o → H.get? b = some o) → Keeps s₁.heap H := fun {H} hk b o e =>
      hk b o (fun q => by rw [q, hIn] at e; cases e) (t₂.keep b o e)
    rcases Nat.lt_or_ge i xs.length with hlt | hge
    · refine W.item i s' _ _ hlt hst' fun v h' tk hpv hst'' hmv => ?_
      obtain ⟨it, hit, hrd⟩ := hPp i v hpv
      have hmv' : Heap.ExtBut I s'.heap h' := fun b o hb e => hmv b o (by simpa using hb) e
      -- the step of the iterator keeps all sequences
      have skI : SeqKeeps s'.heap h' := by
        obtain ⟨oI, vI, hI, hId⟩ := hSt _ _ hst'
        exact fun b o ⟨ys, kk, hd⟩ e => hmv' b o (fun q => by rw [q, hI] at e; cases e; rw [hId] at hd; cases hd) e
      have hCI : Ca ≠ I := fun q => by rw [← q] at hIlt; rw [hC] at hIlt; exact Nat.lt_irrefl _ (Nat.lt_of_succ_lt (hDD ▸ hIlt))
      have hDI : Da ≠ I := fun q => by rw [← q] at hIlt; exact Nat.lt_irrefl _ (hDD ▸ hIlt)
      have hn1 : h'.Ns Ca m' := hn'.extBut hmv' hCI
      have hl1 : PlainL h' Da its := hl'.extBut hmv' hDI
      refine wpAny_assign_Name (wpAny_storeName_local (E := _) hxl' hn1 (fun h₂ hn₂ hs₂ => ?_) (by show (cs'.kind == .class || (cs'.kind == .module && Ca != mainGlobals)) = false; rw [hkind']; rfl))
      have skC := seqKeeps_of_ns hn1 hs₂
      have hl2 : PlainL h₂ Da its := hl1.extBut hs₂.extBut hDC
      have hr2 : RDL h₂ acc its.toList := RDL.keepsSeq skC _ _ (RDL.keepsSeq skI _ _ hrd')
      have hst2 : St (i + 1) h₂ := W.frame _ _ _ hst'' fun b hb o e => hs₂.extBut b o (nDC b (hDD ▸ hfp b hb)).2 e
      have hk2 : ∀ b o, b ≠ I → s₂.heap.get? b = some o → h₂.get? b = some o := fun b o hb e => hs₂.extBut b o (nDC b (lt2 e)).2 (hmv' b o hb (hk' b o hb e))
      have FI2 : FI D cs' cl' h₀ Ca (fun y => if y = x then some v else m' y) h₂ (itemEnv js ix ρ it) :=
        F₁.inner (k1 hk2) hn₂ sz1 hkind' hnd hdbg hsub hckl hjs hx (by simp) (hrd h₂ (k1 hk2))
      have lD : ∀ {o}, h₂.get? Da = some o → o.cls = .type "list" := fun {o} e => by
        obtain ⟨o', _, e1, e2, _⟩ := hl2; rw [e1] at e; cases e; exact e2
      refine wpAny_mono (ht A h₀ Ca (Option.none, a.2) ccd cn cl' _ { s' with heap := h₂, toks := tk + 1 } (itemEnv js ix ρ it) _ _ hA FI2 (turn i acc it hit hJ) (fun c s₃ hc t₃ => ?_)) (fun _ _ q => q) fun _ _ q => q.elim
      have hl3 : PlainL s₃.heap Da its := hl2.keeps t₃.keep
      have hr3 := RDL.keeps t₃.keep hr2
      have hn3 : s₃.heap.Ns Ca _ := hn₂.keeps t₃.keep
      have hst3 : St (i + 1) s₃.heap := W.frame _ _ _ hst2 fun b hb o e => t₃.keep b o e
      have hk3 : ∀ b o, b ≠ I → s₂.heap.get? b = some o → s₃.heap.get? b = some o := fun b o hb e => t₃.keep b o (hk2 b o hb e)
      have hg3 := t₃.gens.trans hg'
      have hd3 := t₃.drawn.trans hd'
      have ho3 := t₃.os.trans ho'
      cases c with
      | false =>
        simp only [Bool.false_eq_true, if_false]
        exact ⟨xs.length + 1 - (i + 1), by omega, i + 1, _, acc, its, rfl, hlt, hc.2 rfl, hn3, hl3, hr3, hnl', by omega, hst3, hk3, hg3, hd3, ho3⟩
      | true =>
        simp only [if_true]
        refine wpAny_mono (he A h₀ Ca (Option.none, a.2) ccd cn cl' _ s₃ (itemEnv js ix ρ it) _ _ hA (FI2.after t₃.keep) (hc.1 rfl) (fun pv y s₄ hy hry t₄ => ?_)) (fun _ _ q => q) fun _ _ q => q.elim
        obtain ⟨yd, rfl, hnly, hJ'⟩ := hy
        have hl4 : PlainL s₄.heap Da its := hl3.keeps t₄.keep
        have hr4 := RDL.keeps t₄.keep hr3
        have hal : ∃ o, s₄.heap.get? Da = some o ∧ o.cls = .type "list" := by obtain ⟨o', _, e1, e2, _⟩ := hl4; exact ⟨o', e1, e2⟩
        refine list_append_plainL hl4 (fun h₅ hP5 hs₅ => ?_) ?_
        · refine ⟨xs.length + 1 - (i + 1), by omega, i + 1, _, acc ++ [yd], its.push y, rfl, hlt, hJ', (hn3.keeps t₄.keep).sameBut hs₅ (Ne.symm hDC), hP5, ?_, nlAll_append hnl' (by simp [nlAll, hnly]), ?_,
            W.frame _ _ _ (W.frame _ _ _ hst3 fun b hb o e => t₄.keep b o e) fun b hb o e => hs₅.extBut b o (nDC b (hDD ▸ hfp b hb)).1 e, fun b o hb e => hs₅.extBut b o (nDC b (lt2 e)).1 (t₄.keep b o (hk3 b o hb e)),
            t₄.gens.trans hg3, t₄.drawn.trans hd3, t₄.os.trans ho3⟩
          · rw [Array.toList_push]
            exact RDL.append (RDL.nlKeeps hs₅.extBut hal _ _ hnl' hr4) ⟨RD.nlKeeps hs₅.extBut hal _ _ hnly hry, trivial⟩
          · rw [List.length_append, List.length_singleton]; omega
        · have e1 := hr4.length
          have e2 : its.toList.length = its.size := by simp
          rw [sizeLine_eq]; omega
    · obtain rfl : i = xs.length := Nat.le_antisymm hi' hge
      refine W.done s' _ _ hst' fun h' tk hmv => ?_
      have hmv' : Heap.ExtBut I s'.heap h' := fun b o hb e => hmv b o (by simpa using hb) e
      have skI : SeqKeeps s'.heap h' := by
        obtain ⟨oI, vI, hI, hId⟩ := hSt _ _ hst'
        exact fun b o ⟨ys, kk, hd⟩ e => hmv' b o (fun q => by rw [q, hI] at e; cases e; rw [hId] at hd; cases hd) e
      have hCI : Ca ≠ I := fun q => by rw [← q] at hIlt; rw [hC] at hIlt; exact Nat.lt_irrefl _ (Nat.lt_of_succ_lt (hDD ▸ hIlt))
      have hDI : Da ≠ I := fun q => by rw [← q] at hIlt; exact Nat.lt_irrefl _ (hDD ▸ hIlt)
      have hn1 : h'.Ns Ca m' := hn'.extBut hmv' hCI
      refine ⟨m', hn1, fun h'' hs'' => ?_⟩
      have skC := seqKeeps_of_ns hn1 hs''
      have hl2 := (hl'.extBut hmv' hDI).extBut hs''.extBut hDC
      refine hQ _ _ _ (fin acc hJ) ⟨Da, its.toList, rfl, by simpa using hl2.isList, RDL.keepsSeq skC _ _ (RDL.keepsSeq skI _ _ hrd')⟩ (t₁.trans ⟨fun b o e => ?_, hg'.trans t₂.gens, hd'.trans t₂.drawn, ho'.trans t₂.os⟩)
      have e2 := t₂.keep b o e
      exact hs''.extBut b o (nDC b (lt2 e2)).2 (hmv' b o (fun q => by rw [q, hIn] at e; cases e) (hk' b o (fun q => by rw [q, hIn] at e; cases e) e2))
  refine codeAny_compStart_list ?_ ?_
  · exact (henv Ca) ▸ loop _ rfl
  · exact W.self 0 _ _ _ hst₁ ((henv Ca) ▸ loop _ rfl)
end
end Mine

-- ---------- BaseD ----------
set_option maxRecDepth 100000
set_option autoImplicit false
set_option linter.all false
set_option maxHeartbeats 400000
namespace Mine
open PySem PySem.W PyProof.Rows PySem.Calls PySem.Spec

/-! ## a function with cells -/
theorem cellsFrom_some : ∀ (names : List (Str × NameKind)) (n : Nat) (acc : List (Str × Addr)) (x : Str), ((x, NameKind.cell) ∈ names ∨ (acc.lookup x).isSome = true) → ((cellsFrom n names acc).lookup x).isSome = true
  | [], n, acc, x, h => by simpa [cellsFrom] using h
  | (y, k) :: r, n, acc, x, h => by
    unfold cellsFrom
    split
    · refine cellsFrom_some r _ _ x ?_
      by_cases hb : x = y
      · subst hb; right; simp
      · rcases h with h | h
        · left
          cases h with
          | head => exact absurd rfl hb
          | tail _ h => exact h
        · right
          rw [List.lookup_cons, show (x == y) = false from beq_eq_false_iff_ne.mpr hb]; exact h
    · rename_i hk
      refine cellsFrom_some r _ _ x ?_
      rcases h with h | h
      · left
        cases h with
        | head => exact absurd rfl hk
        | tail _ h => exact h
      · exact .inr h
theorem bindL_keep {kindOf : Str → Option NameKind} {x : Str} : ∀ {b : List (Str × Value)} {m : Str → Option Value}, x ∉ b.map (·.1) → bindL kindOf b m x = m x
  | [], m, _ => rfl
  | (n, v) :: r, m, h => by
    simp only [List.map_cons, List.mem_cons, not_or] at h
    unfold bindL
    rw [bindL_keep h.2]
    split
    · simp [h.1]
    · rfl
theorem bindC_keep {kindOf : Str → Option NameKind} {x : Str} : ∀ {b : List (Str × Value)} {m : Str → Option Value}, x ∉ b.map (·.1) → bindC kindOf b m x = m x
  | [], m, _ => rfl
  | (n, v) :: r, m, h => by
    simp only [List.map_cons, List.mem_cons, not_or] at h
    unfold bindC
    rw [bindC_keep h.2]
    split
    · rfl
    · simp [h.1]
theorem zip_notin {x : Str} : ∀ {ps : List Str} {vs : List Value}, x ∉ ps → x ∉ (ps.zip vs).map (·.1)
  | [], _, _ => by simp
  | _ :: _, [], _ => by simp
  | p :: ps, v :: vs, h => by
    simp only [List.mem_cons, not_or] at h
    simp only [List.zip_cons_cons, List.map_cons, List.mem_cons, not_or]
    exact ⟨h.1, zip_notin h.2⟩
theorem bindL_zip {kindOf : Str → Option NameKind} {x : Str} {v : Value} (hk : kindOf x = some .local) : ∀ {ps : List Str} {vs : List Value} {i : Nat} {m : Str → Option Value}, ps.Nodup → ps[i]? = some x → vs[i]? = some v → bindL kindOf (ps.zip vs) m x = some v
  | [], _, _, _, _, h, _ => by simp at h
  | _ :: _, [], _, _, _, _, h => by simp at h
  | p :: ps, u :: vs, 0, m, hn, h, h' => by
    simp at h h'; subst h h'
    rw [List.nodup_cons] at hn
    show bindL kindOf (ps.zip vs) _ p = _
    rw [bindL_keep (zip_notin hn.1), if_pos hk]; simp
  | p :: ps, u :: vs, i + 1, m, hn, h, h' => by
    rw [List.nodup_cons] at hn
    exact bindL_zip hk (ps := ps) hn.2 (by simpa using h) (by simpa using h')
theorem bindC_zip {kindOf : Str → Option NameKind} {x : Str} {v : Value} (hk : ¬ kindOf x = some .local) : ∀ {ps : List Str} {vs : List Value} {i : Nat} {m : Str → Option Value}, ps.Nodup → ps[i]? = some x → vs[i]? = some v → bindC kindOf (ps.zip vs) m x = some v
  | [], _, _, _, _, h, _ => by simp at h
  | _ :: _, [], _, _, _, _, h => by simp at h
  | p :: ps, u :: vs, 0, m, hn, h, h' => by
    simp at h h'; subst h h'
    rw [List.nodup_cons] at hn
    show bindC kindOf (ps.zip vs) _ p = _
    rw [bindC_keep (zip_notin hn.1), if_neg hk]; simp
  | p :: ps, u :: vs, i + 1, m, hn, h, h' => by
    rw [List.nodup_cons] at hn
    exact bindC_zip hk (ps := ps) hn.2 (by simpa using h) (by simpa using h')
theorem apart_inj : ∀ {l : List (Str × Addr)} {x y : Str} {c : Addr}, (l.Pairwise fun a b => a.2 ≠ b.2) → (x, c) ∈ l → (y, c) ∈ l → x = y
  | [], _, _, _, _, h, _ => by simp at h
  | (z, d) :: l, x, y, c, hp, h1, h2 => by
    rw [List.pairwise_cons] at hp
    cases h1 with
    | head =>
      cases h2 with
      | head => rfl
      | tail _ h2 => exact absurd rfl (hp.1 (y, _) h2)
    | tail _ h1 =>
      cases h2 with
      | head => exact absurd rfl (hp.1 (x, _) h1)
      | tail _ h2 => exact apart_inj hp.2 h1 h2

section
variable {D : Wd} {n : Nat}

theorem FS.defC {f : Addr} {oc : Value} {od : Option Addr} {osl : Array (Option Value)} {name qual : Str} {params : Arguments} {body : List Stmt} {scope : Scope} {dV kV doc pm cdv ct : Value} {an : Option Addr}
    {ps : List Str} {kds : List NameKind} {k : Nat} {dfl : List PV} {W : TrS} {C : List PV → (PV → Prop) → Prop}
    (ho : D.K.lookup f = some ⟨oc, od, .func (fnOf name qual params body scope dV kV doc pm an cdv ct), osl⟩)
    (hcd : codeIn D.K cdv qual = true)
    (hb : ∀ (s : Shared) (vs : List Value), GF D s.heap → vs.length = k → ∃ vs', BindsTo s (fnOf name qual params body scope dV kV doc pm an cdv ct) ⟨vs, []⟩ (ps.zip (vs ++ vs')) ∧ RepL s.heap dfl vs')
    (hnames : scope.names.take ps.length = ps.zip kds) (hkds : kds.length = ps.length) (hkd : ∀ kd ∈ kds, kd = .local ∨ kd = .cell)
    (hnd : (scope.names.map (·.1)).Nodup) (hdbg : scope.names.all (fun q => !(q.1 == ("__debug__" : Str)) && !(q.1 == ("__classdict__" : Str))) = true) (hnp : ps.Nodup)
    (hco : scope.isCoroutine = false) (hgen : scope.isGenerator = false) (hk : scope.kind = .function)
    (hS : SS D n scope body W)
    (h2 : ps.length = k + dfl.length) (hlen : ∀ pvs P, C pvs P → pvs.length = k)
    (hC : ∀ pvs P, C pvs P → W (init (pvs ++ dfl) (scope.names.length - ps.length)) (fun _ => P (.d .none)) P) :
    FS D (.ref f) (n + 1) C := by
  intro A s pvs vs P Q hA G hr hCp hQ
  have h1 := hlen pvs P hCp
  have hW := hC pvs P hCp
  obtain ⟨vs', hbind, hr'⟩ := hb s vs G (by rw [← hr.length]; exact h1)
  have hR : RepL s.heap (pvs ++ dfl) (vs ++ vs') := RepL.append hr hr'
  -- the parameters in the scope
  have hpar : ∀ (i : Nat) x, ps[i]? = some x → ∃ kd, At scope x i kd ∧ (kd = .local ∨ kd = .cell) := by
    intro i x hx
    have hlt : i < ps.length := (List.getElem?_eq_some_iff.mp hx).1
    have hkdi : kds[i]? = some kds[i] := List.getElem?_eq_getElem (by omega)
    have e1 : (scope.names.take ps.length)[i]? = some (x, kds[i]) := by
      rw [hnames, List.getElem?_zip_eq_some]; exact ⟨hx, hkdi⟩
    refine ⟨kds[i], ?_, hkd _ (List.getElem_mem _)⟩
    rw [List.getElem?_take] at e1
    unfold At
    simpa [hlt] using e1
  have hkind : ∀ (q : Nat), ∀ x ∈ ps.zip (vs ++ vs'), scope.names.lookup x.1 = some .local ∨ (scope.names.lookup x.1 = some .cell ∧ ((cellsFrom q scope.names []).lookup x.1).isSome = true) := by
    intro q x hx
    obtain ⟨i, hi⟩ := List.mem_iff_getElem?.mp (List.of_mem_zip hx).1
    obtain ⟨kd, hat, hkd'⟩ := hpar i x.1 hi
    have hlk := lookup_of_get hnd hat
    rcases hkd' with rfl | rfl
    · exact .inl hlk
    · exact .inr ⟨hlk, cellsFrom_some _ _ _ _ (.inl (List.mem_of_getElem? hat))⟩
  refine wpAny_call (codeAny_call_function (by have := hA.depth; omega) (G.X _ _ ho) rfl hco hgen rfl (codeRec_of G.X hcd) (hbind _ _ _ _ ?_))
  refine wpAny_newFunctionEnv_cells hk (hkind _) fun env' he s' x => ?_
  subst he
  refine ⟨G.T.nolimit.keeps x.toInCall.keep, codeAny_func ?_⟩
  obtain ⟨h₁, tk, rfl⟩ := x.toInCall.same
  have hns : h₁.Ns s.heap.objs.size (bindL (fun z => scope.names.lookup z) (ps.zip (vs ++ vs')) fun _ => none) := x.toInCall.ns
  have hk₁ : Keeps s.heap h₁ := x.toInCall.keep
  have hmem : ∀ y c, (cellsFrom (s.heap.objs.size + 1) scope.names []).lookup y = some c → s.heap.objs.size < c := fun y c q => x.above y c (lookup_mem q)
  have F : FI D scope (cellsFrom (s.heap.objs.size + 1) scope.names []) s.heap s.heap.objs.size (bindL (fun z => scope.names.lookup z) (ps.zip (vs ++ vs')) fun _ => none) h₁ (init (pvs ++ dfl) (scope.names.length - ps.length)) := by
    refine ⟨G, ⟨hns, hk₁, Nat.le_refl _⟩, hk, hnd, hdbg, fun y c q => ?_, fun y z c q r => apart_inj x.apart (lookup_mem q) (lookup_mem r), fun y hy => ?_, fun y c q => ⟨_, x.cell y c q⟩, fun i y kd pv hi hp => ?_⟩
    · have := hmem y c q
      refine ⟨?_, Nat.ne_of_gt this⟩
      cases hq : s.heap.get? c with
      | none => rfl
      | some o => exact absurd (Heap.lt_size hq) (Nat.not_lt.mpr (Nat.le_of_lt this))
    · exact Option.isSome_iff_exists.mp (cellsFrom_some _ _ _ _ (.inl (lookup_mem hy)))
    · have hpv := init_get hp
      obtain ⟨v, hv, rv⟩ := hR.get i hpv
      have hlt : i < ps.length := by
        rw [h2, ← h1]
        have := List.getElem?_eq_some_iff.mp hpv
        obtain ⟨q, _⟩ := this
        simpa using q
      have hpi : ps[i]? = some ps[i] := List.getElem?_eq_getElem hlt
      obtain ⟨kd', hat, hkd'⟩ := hpar i _ hpi
      obtain ⟨e1, e2⟩ : ps[i] = y ∧ kd' = kd := by
        have : some (ps[i], kd') = some (y, kd) := hat.symm.trans hi
        simpa using this
      have hlk : scope.names.lookup ps[i] = some kd' := lookup_of_get hnd hat
      subst e2
      rw [← e1]
      refine ⟨v, rv.keepsSeq (Keeps.seq hk₁), ?_⟩
      rcases hkd' with rfl | rfl
      · exact .inl ⟨rfl, bindL_zip (kindOf := fun z => scope.names.lookup z) hlk hnp hpi hv⟩
      · obtain ⟨c, hc⟩ := Option.isSome_iff_exists.mp (cellsFrom_some scope.names (s.heap.objs.size + 1) [] ps[i] (.inl (List.mem_of_getElem? hat)))
        refine .inr ⟨.inl rfl, c, hc, ?_⟩
        have : h₁.IsCell c (bindC (fun z => scope.names.lookup z) (ps.zip (vs ++ vs')) (fun _ => none) ps[i]) := x.cell _ c hc
        rwa [show bindC _ (ps.zip (vs ++ vs')) (fun _ => none) ps[i] = some v from bindC_zip (kindOf := fun z => scope.names.lookup z) (by rw [hlk]; simp) hnp hpi hv] at this
  have H := hS (A.deeper (envX qual scope s.heap.objs.size f cdv (cellsFrom (s.heap.objs.size + 1) scope.names []))) s.heap s.heap.objs.size (some f, some s.heap.objs.size) cdv (qual ++ ".<locals>.") _ _ { s with heap := h₁, toks := tk } _ _ _
    (fun fl s' => match (Except.ok (Flow.ret (match fl with | .ret v => v | _ => .none)) : Result) with | .ok (.ret v) => Q v s' | .ok _ => False | .error e => NoE e s') (hA.deeper _) F hW
    (fun ρ' m' s' hp F' t' => hQ _ _ s' hp rfl ⟨t'.keep₀ F, t'.gens, t'.drawn, t'.os⟩)
    (fun pv v s' hp hr t' => hQ _ _ s' hp hr ⟨t'.keep₀ F, t'.gens, t'.drawn, t'.os⟩)
  exact wpAny_mono H (fun _ _ x => x) fun _ _ x => x.elim

def C_all : List PV → (PV → Prop) → Prop
  | [.d (.list xs)], P => ∃ bs : List Bool, xs = bs.map .bool ∧ P (.d (.bool (bs.all id)))
  | _, _ => False
theorem FS.all : FS D (.builtin "all") 0 C_all := by
  intro A s pvs vs P Q hA G hr hC hQ
  unfold C_all at hC
  split at hC
  · rename_i xs
    obtain ⟨bs, rfl, hP⟩ := hC
    obtain ⟨v, rfl, hv⟩ := RepL.one hr
    refine call_all_walk (pyIter_items (A := A.in1) (pv := .d (.list (bs.map .bool))) (Pi := fun xs => xs = bs.map .bool) hA.handled rfl hv fun xs I fp Pp St s₂ hx W hst hfp hIn hI1 hIlt t₂ hPp hSt => ?_)
    subst hx
    refine ⟨I, fp, [I], _, Pp, St, fun i => bs[i]?.getD true, rfl, W, hst, fun i v s' Q' E' hp hq => ?_, fun h' tk hk => ?_⟩
    · obtain ⟨it, hit, hrd⟩ := hPp i v hp
      rw [List.getElem?_map, Option.map_eq_some_iff] at hit
      obtain ⟨b, hb, rfl⟩ := hit
      obtain rfl : v = .bool b := hrd _ (Keeps.refl _)
      have hq' : Q' (bs[i]?.getD true) s' := hq
      rw [hb] at hq'
      exact wpAny_truthy_bool hq'
    · have e : (List.range (bs.map PyData.bool).length).all (fun i => bs[i]?.getD true) = bs.all id := by
        rw [List.length_map]
        apply Bool.eq_iff_iff.mpr
        rw [List.all_eq_true, List.all_eq_true]
        constructor
        · intro h b hb
          obtain ⟨i, hi⟩ := List.mem_iff_getElem?.mp hb
          have hl := (List.getElem?_eq_some_iff.mp hi).1
          have := h i (List.mem_range.mpr hl)
          rw [hi] at this; exact this
        · intro h i hi
          have hl := List.mem_range.mp hi
          rw [List.getElem?_eq_getElem hl]
          exact h _ (List.getElem_mem hl)
      rw [e]
      exact hQ _ _ _ hP rfl ⟨fun b o q => hk b o (fun z => by rw [List.mem_singleton.mp z, hIn] at q; cases q) (t₂.keep b o q), t₂.gens, t₂.drawn, t₂.os⟩
  · exact hC.elim

def itemNegVC : PV → PV → (PV → Prop) → Prop
  | .d (.list xs), .d (.int k), P => k < 0 ∧ -(2 ^ 63) ≤ k ∧ 0 ≤ k + (xs.length : Int) ∧ match xs[(k + (xs.length : Int)).toNat]? with | some x => P (.d x) | none => False
  | _, _, _ => False
theorem SE.itemNeg {cs : Scope} {v i : Expr} {pos : Pos} {Wv Wi : Env1 → (PV → Prop) → Prop} (hv : SE D n cs v Wv) (hi : SE D n cs i Wi)
    (hs : ∀ o x, subscripted i false o x = operate [o, x] (getItem o x)) : SE D n cs (.Subscript v i pos) (fun ρ P => Wv ρ fun a => Wi ρ fun b => itemNegVC a b P) := by
  intro A h₀ L a ccd cn cl m s ρ P Q hA F hW hQ
  refine Subscript_ (hv A h₀ L a ccd cn cl m s ρ _ _ hA F hW fun pa v' s₁ hW₁ r₁ t₁ => ?_)
  refine hi A h₀ L a ccd cn cl m s₁ ρ _ _ hA (F.after t₁.keep) hW₁ fun pb u s₂ h₂ r₂ t₂ => ?_
  have r₁ := r₁.keepsSeq t₂.keep.seq
  unfold itemNegVC at h₂
  split at h₂
  · rename_i xs k _
    obtain ⟨b1, b2, b3, hx⟩ := h₂
    obtain ⟨t, vs, rfl, ht, hd⟩ := r₁
    obtain ⟨tk, rfl⟩ := r₂
    cases hq : xs[(k + (xs.length : Int)).toNat]? with
    | none => rw [hq] at hx; exact hx.elim
    | some x =>
      rw [hq] at hx
      obtain ⟨y, hy, ry⟩ := hd.get _ hq
      have hlen := hd.length
      exact tail_any ht.typeIs slot_list_getitem.lookup (wpAny_getItem_list_neg ht b1 (by rw [List.size_toArray]; omega) b2 (by simpa [← hlen] using hy) (hQ _ _ _ hx ry (t₁.trans t₂))) (hs _ _)
  · exact h₂.elim
end
end Mine

-- ---------- Plain5 ----------
set_option maxRecDepth 100000
set_option autoImplicit false
set_option linter.all false
namespace Mine
open PySem PySem.W PyProof.Rows PySem.Calls PySem.Spec

theorem rfrac_le {r : Str} {sg : Int} {A B : Nat} : rfrac r sg A B ≤ A / B + 1 := by
  unfold rfrac; split
  · split <;> omega
  · split
    · omega
    · split <;> omega
theorem rfrac_cut {r : Str} {sg : Int} {A B : Nat} (h1 : r ≠ Str.ofString "n") (h2 : cuts r sg = true) : rfrac r sg A B * B ≤ A := by
  unfold rfrac; rw [if_neg h1, if_pos h2]; exact Nat.div_mul_le_self A B
theorem rfrac_up {r : Str} {sg : Int} {A B : Nat} (hB : 0 < B) (h1 : r ≠ Str.ofString "n") (h2 : cuts r sg = false) : A ≤ rfrac r sg A B * B := by
  unfold rfrac; rw [if_neg h1, if_neg (by simp [h2])]
  have h := Nat.div_add_mod A B
  have hm := Nat.mod_lt A hB
  rw [Nat.mul_comm] at h
  split
  · omega
  · rw [Nat.add_mul]; omega

theorem fr_nrm {r : Str} {prec : Nat} {p : Int} {q : Nat} {x : PyData} (h : FRx r prec p q x) (hq : 0 < q) :
    ∃ (R : Int) (u v : Nat), u ≤ 5000 ∧ v ≤ 5000 ∧ nb R.natAbs ≤ prec + 1 ∧ x = nrm R ((v : Int) - u) ∧
      (r = Str.ofString "f" → R * ((q * 2 ^ v : Nat) : Int) ≤ p * ((2 ^ u : Nat) : Int)) ∧ (r = Str.ofString "c" → p * ((2 ^ u : Nat) : Int) ≤ R * ((q * 2 ^ v : Nat) : Int)) := by
  rcases h with ⟨rfl, rfl⟩ | ⟨hp, u, v, hu, hv, h1, h2, rfl⟩
  · exact ⟨0, 0, 0, by decide, by decide, Nat.le_trans (by decide : nb (0 : Int).natAbs ≤ 0) (Nat.zero_le _), nrm_zero.symm, fun _ => by simp, fun _ => by simp⟩
  · generalize hsg : (if p < 0 then (1 : Int) else 0) = sg at *
    have hs : sg = 0 ∨ sg = 1 := by subst hsg; split <;> simp
    have hBp : 0 < q * 2 ^ v := Nat.mul_pos hq (Nat.two_pow_pos v)
    generalize hT : rfrac r sg (p.natAbs * 2 ^ u) (q * 2 ^ v) = T
    have hTle : T ≤ 2 ^ prec := by
      have := rfrac_le (r := r) (sg := sg) (A := p.natAbs * 2 ^ u) (B := q * 2 ^ v)
      have h3 : p.natAbs * 2 ^ u / (q * 2 ^ v) < 2 ^ prec := (Nat.div_lt_iff_lt_mul hBp).mpr h2
      omega
    refine ⟨sgn sg T, u, v, hu, hv, ?_, (nrm_sgn hs).symm, fun hr => ?_, fun hr => ?_⟩
    · rw [sgn_natAbs]
      refine nb_le ?_
      rw [Nat.pow_succ]; have := Nat.two_pow_pos prec; omega
    · subst hr
      rcases hs with h0 | h0
      · have hp0 : 0 ≤ p := by subst h0; split at hsg <;> omega
        have := rfrac_cut (A := p.natAbs * 2 ^ u) (B := q * 2 ^ v) (sg := sg) (by decide : Str.ofString "f" ≠ Str.ofString "n") (by subst h0; decide)
        rw [hT] at this
        rw [h0, sgn_zero]
        obtain ⟨P, rfl⟩ := Int.eq_ofNat_of_zero_le hp0
        simp only [Int.natAbs_natCast] at this
        exact_mod_cast this
      · have hp0 : p < 0 := by subst h0; split at hsg <;> omega
        have := rfrac_up (A := p.natAbs * 2 ^ u) (B := q * 2 ^ v) (sg := sg) hBp (by decide : Str.ofString "f" ≠ Str.ofString "n") (by subst h0; decide)
        rw [hT] at this
        rw [h0, sgn_one]
        have e : p = -(p.natAbs : Int) := by omega
        generalize p.natAbs = P at *
        rw [e, Int.neg_mul, Int.neg_mul]
        have : (P : Int) * ((2 ^ u : Nat) : Int) ≤ (T : Int) * ((q * 2 ^ v : Nat) : Int) := by exact_mod_cast this
        omega
    · subst hr
      rcases hs with h0 | h0
      · have hp0 : 0 ≤ p := by subst h0; split at hsg <;> omega
        have := rfrac_up (A := p.natAbs * 2 ^ u) (B := q * 2 ^ v) (sg := sg) hBp (by decide : Str.ofString "c" ≠ Str.ofString "n") (by subst h0; decide)
        rw [hT] at this
        rw [h0, sgn_zero]
        obtain ⟨P, rfl⟩ := Int.eq_ofNat_of_zero_le hp0
        simp only [Int.natAbs_natCast] at this
        exact_mod_cast this
      · have hp0 : p < 0 := by subst h0; split at hsg <;> omega
        have := rfrac_cut (A := p.natAbs * 2 ^ u) (B := q * 2 ^ v) (sg := sg) (by decide : Str.ofString "c" ≠ Str.ofString "n") (by subst h0; decide)
        rw [hT] at this
        rw [h0, sgn_one]
        have e : p = -(p.natAbs : Int) := by omega
        generalize p.natAbs = P at *
        rw [e, Int.neg_mul, Int.neg_mul]
        have : (T : Int) * ((q * 2 ^ v : Nat) : Int) ≤ (P : Int) * ((2 ^ u : Nat) : Int) := by exact_mod_cast this
        omega

theorem fr_hit {r : Str} {prec : Nat} {p a : Int} {q B m z : Nat} {x : PyData} (h : FRx r prec p q x) (hq : 0 < q) (hp : 1 ≤ prec) (hp2 : prec ≤ 1000) (e : a * q = p * 2 ^ B)
    (hm : a.natAbs = m * 2 ^ z) (b1 : nb m ≤ prec) (b2 : nb m + z ≤ 500) (b3 : B ≤ 500) : x = nrm a (-(B : Int)) := by
  have p2 : (0 : Int) < 2 ^ B := two_pow_pos_int B
  rcases h with ⟨rfl, rfl⟩ | ⟨hp0, hf⟩
  · have : a = 0 := by
      rw [Int.zero_mul] at e
      rcases Int.mul_eq_zero.mp e with h | h
      · exact h
      · omega
    subst this; exact nrm_zero.symm
  · have ha0 : a ≠ 0 := fun q0 => by
      rw [q0, Int.zero_mul] at e
      rcases Int.mul_eq_zero.mp e.symm with h | h
      · exact hp0 h
      · omega
    have hm0 : m ≠ 0 := fun q0 => by rw [q0, Nat.zero_mul] at hm; omega
    have h1 := fr_one (r := r) (sg := if p < 0 then 1 else 0) hp hp2 hm0 b2 b3
    have en : p.natAbs * (1 * 2 ^ B) = m * 2 ^ z * q := by
      have := congrArg Int.natAbs e
      rw [Int.natAbs_mul, Int.natAbs_mul, Int.natAbs_natCast, Int.natAbs_pow] at this
      rw [Nat.one_mul, ← hm, this]; rfl
    have hx := IsFR.unique hp hq (by rw [Nat.one_mul]; exact Nat.two_pow_pos B) en hf h1
    rw [hx, rnorm_small b1]
    have hsgn : (p < 0) ↔ (a < 0) := by
      constructor
      · intro h
        rcases Int.lt_or_le a 0 with c | c
        · exact c
        · exfalso
          have k1 : 0 ≤ a * (q : Int) := Int.mul_nonneg c (by omega)
          have k2 : p * 2 ^ B < 0 := Int.mul_neg_of_neg_of_pos h p2
          omega
      · intro h
        rcases Int.lt_or_le p 0 with c | c
        · exact c
        · exfalso
          have k1 : 0 ≤ p * 2 ^ B := Int.mul_nonneg c (by omega)
          have k2 : a * (q : Int) < 0 := Int.mul_neg_of_neg_of_pos h (by omega)
          omega
    unfold nrm
    rw [hm, nrmN_scale, show (if p < 0 then (1 : Int) else 0) = (if a < 0 then 1 else 0) by simp only [hsgn]]
    congr 1; omega
end Mine

-- ---------- Fn9 ----------
set_option maxRecDepth 100000
set_option autoImplicit false
set_option linter.all false
set_option Elab.async false
set_option maxHeartbeats 4000000
namespace Mine
open PySem PySem.W PyProof.Rows PySem.Calls PySem.Spec

local macro_rules | `(tactic| walk_at "vc") => `(tactic| simp only [init, List.map_cons, List.map_nil, List.cons_append, List.nil_append, List.append_nil, List.length_cons, List.length_nil, List.replicate, List.replicate_zero, List.replicate_succ, List.reverse_cons, List.reverse_nil,
  Nat.reduceAdd, Nat.reduceSub, v_add, v_sub, v_mul, v_div, v_mod, v_shl, v_shr, v_and, v_xor, v_pow, v_iadd, v_isub, v_imul, v_ishl, v_ishr, v_ixor, v_tint, v_tbool, v_tnone, v_usub, v_unot, v_lt, v_le, v_gt, v_ge, v_eqi, v_nei, v_eqs, v_neb, v_eq4, v_in4, v_eq2,
  v_bits, v_get0, v_getS, v_set0, v_setS, v_all0, v_allS, v_sets0, v_setsS, v_nsets0, v_nsetsS, v_unt, v_unl, v_itl, v_it0, v_it1, v_it2, v_it3, v_int, v_abs, v_len, v_divmod, v_isint, v_shift,
  Bool.not_eq_true', Bool.not_eq_false', bne_iff_ne, ne_eq, bne_eq_false_iff_eq, Bool.not_true, Bool.not_false, decide_eq_true_eq, decide_eq_false_iff_not, true_and, and_true, forall_const, reduceCtorEq, false_implies, true_implies])
-- fsd: the plain goals of FS.def
local macro_rules | `(tactic| walk_at "fsd") => `(tactic| (
  (case ho => exact rfl)
  (case hcd => exact rfl)
  (case e1 => exact rfl)
  (case e2 => decide)
  (case e3 => decide)
  (case e10 => decide)
  (case e4 => decide)
  (case e5 => decide)
  (case e6 => exact rfl)
  (case e7 => exact rfl)
  (case e8 => exact rfl)
  (case e9 => exact rfl)
  skip))

section
variable {w : World} {p : Program} {loose : List Str} {mg mb : Str → Option Value} {n : Nat} {cs : Scope}

def dd (a : Int) (B : Nat) (p : Int) (q : Nat) : Int := a * q - p * 2 ^ B
def OneOk (a : Int) (B : Nat) (l : List (Int × Int)) (k : Nat) (far : PV) (p : Int) (q : Nat) : Prop :=
  l[k]? = some (p, (q : Int)) ∧ l.length ≤ 1000 ∧ 0 < q ∧ B ≤ 100 ∧ nb a.natAbs ≤ 100 ∧ nb q ≤ 100 ∧ nb p.natAbs ≤ 100 ∧ (∃ m z : Nat, a.natAbs = m * 2 ^ z ∧ nb m ≤ 40 ∧ z ≤ 100) ∧
  (k % 2 = 0 → 0 ≤ dd a B p q) ∧ (k % 2 ≠ 0 → dd a B p q ≤ 0) ∧ (dd a B p q = 0 ↔ k + 1 = l.length) ∧
  (0 < k → ∃ F : Int, far = .d (nrm F (-(B : Int))) ∧ nb F.natAbs ≤ 1000 ∧ ((dd a B p q).natAbs : Int) < F) ∧
  (k + 1 < l.length → ∃ p' : Int, ∃ q' : Nat, l[k + 1]? = some (p', (q' : Int)) ∧ 0 < q' ∧ nb q' ≤ 100 ∧ (dd a B p q).natAbs * q' ≤ 2 ^ B ∧ ((dd a B p q).natAbs * q' = 2 ^ B ↔ k + 2 = l.length))
def oneEnv (s : PyData) (k : Nat) (l : List (Int × Int)) (far : PV) (p : Int) (q : Nat) (gap : PyData) (side : Int) : Env1 :=
  [some (.d s), some (.d (.int k)), some (.d (.list (tups l))), some far, some (.d (.int p)), some (.d (.int q)), some (.d gap), some (.d (.int side)), none, none, none, none, none, none, none, none, none, none, none, none, none]
theorem le_core {R p a : Int} {q u v B : Nat} (hq : 0 < q) (h : R * ((q * 2 ^ v : Nat) : Int) ≤ p * ((2 ^ u : Nat) : Int)) (hD : p * 2 ^ B ≤ a * q) : R * 2 ^ (v + B) ≤ a * 2 ^ u := by
  refine Int.le_of_mul_le_mul_right (a := (q : Int)) ?_ (by omega)
  have p1 : (0 : Int) ≤ 2 ^ B := Int.le_of_lt (two_pow_pos_int B)
  have p2 : (0 : Int) ≤ 2 ^ u := Int.le_of_lt (two_pow_pos_int u)
  calc R * 2 ^ (v + B) * (q : Int) = R * ((q * 2 ^ v : Nat) : Int) * 2 ^ B := by rw [Int.pow_add]; push_cast; simp only [Int.mul_assoc, Int.mul_comm, Int.mul_left_comm]
    _ ≤ p * ((2 ^ u : Nat) : Int) * 2 ^ B := Int.mul_le_mul_of_nonneg_right h p1
    _ = p * 2 ^ B * 2 ^ u := by push_cast; simp only [Int.mul_assoc, Int.mul_comm, Int.mul_left_comm]
    _ ≤ a * q * 2 ^ u := Int.mul_le_mul_of_nonneg_right hD p2
    _ = a * 2 ^ u * (q : Int) := by simp only [Int.mul_assoc, Int.mul_comm, Int.mul_left_comm]
theorem ge_core {R p a : Int} {q u v B : Nat} (hq : 0 < q) (h : p * ((2 ^ u : Nat) : Int) ≤ R * ((q * 2 ^ v : Nat) : Int)) (hD : a * q ≤ p * 2 ^ B) : a * 2 ^ u ≤ R * 2 ^ (v + B) := by
  refine Int.le_of_mul_le_mul_right (a := (q : Int)) ?_ (by omega)
  have p1 : (0 : Int) ≤ 2 ^ B := Int.le_of_lt (two_pow_pos_int B)
  have p2 : (0 : Int) ≤ 2 ^ u := Int.le_of_lt (two_pow_pos_int u)
  calc a * 2 ^ u * (q : Int) = a * q * 2 ^ u := by simp only [Int.mul_assoc, Int.mul_comm, Int.mul_left_comm]
    _ ≤ p * 2 ^ B * 2 ^ u := Int.mul_le_mul_of_nonneg_right hD p2
    _ = p * ((2 ^ u : Nat) : Int) * 2 ^ B := by push_cast; simp only [Int.mul_assoc, Int.mul_comm, Int.mul_left_comm]
    _ ≤ R * ((q * 2 ^ v : Nat) : Int) * 2 ^ B := Int.mul_le_mul_of_nonneg_right h p1
    _ = R * 2 ^ (v + B) * (q : Int) := by rw [Int.pow_add]; push_cast; simp only [Int.mul_assoc, Int.mul_comm, Int.mul_left_comm]
theorem nl_nrm {N e : Int} : nl (nrm N e) = true := by
  obtain ⟨a, b, c, d, h, _⟩ := nrm_four N e
  rw [h]; rfl
theorem nb_shi {N : Int} {k j : Nat} (h : nb N.natAbs ≤ k) : nb (N * 2 ^ j).natAbs ≤ k + j := by
  rw [natAbs_mul_pow]
  rcases Nat.eq_zero_or_pos N.natAbs with z | z
  · rw [z, Nat.zero_mul, nb_zero]; omega
  · rw [nb_shl j (by omega)]; omega
def C_one (pvs : List PV) (P : PV → Prop) : Prop := ∃ (a : Int) (B : Nat) (l : List (Int × Int)) (k : Nat) (far : PV) (p : Int) (q : Nat),
  pvs = [.d (nrm a (-(B : Int))), .d (.int (k : Int)), .d (.list (tups l)), far] ∧ OneOk a B l k far p q ∧ P (.d (.bool true))
theorem fs_ulaw_one_right_4 : FS (DD w p loose mg mb) (.ref 185) 9 C_one := by
  refine' FS.defC (ps := [Str.ofString "s", Str.ofString "k", Str.ofString "rows", Str.ofString "far"]) (kds := [.cell, .local, .local, .local]) (k := 4) (dfl := []) ?ho ?hcd ?hb ?e1 ?e2 ?e3 ?e10 ?e4 ?e5 ?e6 ?e7 ?e8 ?hS ?e9 ?hl ?hC
  case ho => exact rfl
  case hcd => exact rfl
  case e1 => exact rfl
  case e2 => exact rfl
  case e3 => decide
  case e10 => decide
  case e4 => decide
  case e5 => decide
  case e6 => exact rfl
  case e7 => exact rfl
  case e8 => exact rfl
  case e9 => exact rfl
  case hb => intro s vs G hl; match vs, hl with
    | [_, _, _, _], _ => exact ⟨[], .of_eq rfl, trivial⟩
  case hS => exact (SS.cons (S1.unpack (SE.item (SE.varL 2 rfl) (SE.varL 1 rfl) (fun _ _ => by with_unfolding_all rfl)) (Tgts.cons (i := 4) rfl (.inr rfl) (Tgts.cons (i := 5) rfl (.inr rfl) Tgts.nil)) (fun _ => rfl) (fun _ => rfl))
 (SS.cons (S1.assign (i := 6) (SE.callN (SE.globF 11 g_mpf_sub rfl) rfl fs_mpf_sub_2 (by decide) (SA.cons (SE.callN (SE.globF 12 g_mpf_mul_int rfl) rfl fs_mpf_mul_int_3 (by decide) (SA.cons (SE.varC 0 rfl) (SA.cons (SE.varC 5 rfl) (SA.cons SE.int SA.nil (fun _ => rfl)) (fun _ => rfl)) (fun _ => rfl)) (.inr k_mpf_mul_int) (fun _ => rfl) (NoStar.cons (fun _ => rfl) (NoStar.cons (fun _ => rfl) NoStar.nil))) (SA.cons (SE.callN (SE.globF 13 g_from_int rfl) rfl fs_from_int_1 (by decide) (SA.cons (SE.varC 4 rfl) SA.nil (fun _ => rfl)) (.inr k_from_int) (fun _ => rfl) NoStar.nil) SA.nil (fun _ => rfl)) (fun _ => rfl)) (.inr k_mpf_sub) (fun _ => rfl) (NoStar.cons (fun _ => rfl) NoStar.nil)) rfl (.inl rfl) (fun _ => rfl))
 (SS.cons (S1.cut (S1.assign (i := 7) (SE.ite (ST.cmp (SE.bin (SE.varL 1 rfl) SE.int) SE.int rfl) SE.int (SE.un SE.int)) rfl (.inl rfl) (fun _ => rfl)))
 (SS.cons (S1.cut (S1.ite (ST.or2 (ST.cmp (SE.bin (SE.callN (SE.globF 14 g_mpf_sign rfl) rfl fs_mpf_sign_1 (by decide) (SA.cons (SE.varL 6 rfl) SA.nil (fun _ => rfl)) (.inr k_mpf_sign) (fun _ => rfl) NoStar.nil) (SE.varL 7 rfl)) SE.int rfl) (ST.cmp (SE.cmp (SE.callN (SE.globF 14 g_mpf_sign rfl) rfl fs_mpf_sign_1 (by decide) (SA.cons (SE.varL 6 rfl) SA.nil (fun _ => rfl)) (.inr k_mpf_sign) (fun _ => rfl) NoStar.nil) SE.int rfl) (SE.cmp (SE.varL 1 rfl) (SE.bin (SE.callN (SE.globB 15 g_len b_len (by decide) rfl) rfl FS.len (Nat.zero_le _) (SA.cons (SE.varL 2 rfl) SA.nil (fun _ => rfl)) (.inl (fun _ q => nomatch q)) (fun _ => rfl) NoStar.nil) SE.int) rfl) rfl)) (SS.cons (S1.ret SE.bool)
 SS.nil) SS.nil))
 (SS.cons (S1.cut (S1.ite (ST.and2 (ST.cmp (SE.varL 1 rfl) SE.int rfl) (ST.not (ST.val (SE.callN (SE.globF 16 g_mpf_lt rfl) rfl fs_mpf_lt_2 (by decide) (SA.cons (SE.callN (SE.globF 17 g_mpf_abs rfl) rfl fs_mpf_abs_1 (by decide) (SA.cons (SE.varL 6 rfl) SA.nil (fun _ => rfl)) (.inr k_mpf_abs) (fun _ => rfl) NoStar.nil) (SA.cons (SE.varL 3 rfl) SA.nil (fun _ => rfl)) (fun _ => rfl)) (.inr k_mpf_lt) (fun _ => rfl) (NoStar.cons (fun _ => rfl) NoStar.nil)) (fun _ _ => rfl)))) (SS.cons (S1.ret SE.bool)
 SS.nil) SS.nil))
 (SS.cons (S1.ite (ST.cmp (SE.varL 1 rfl) (SE.bin (SE.callN (SE.globB 15 g_len b_len (by decide) rfl) rfl FS.len (Nat.zero_le _) (SA.cons (SE.varL 2 rfl) SA.nil (fun _ => rfl)) (.inl (fun _ q => nomatch q)) (fun _ => rfl) NoStar.nil) SE.int) rfl) (SS.cons (S1.assign (i := 8) (SE.callN (SE.globF 18 g_mpf_cmp rfl) rfl fs_mpf_cmp_2 (by decide) (SA.cons (SE.callN (SE.globF 12 g_mpf_mul_int rfl) rfl fs_mpf_mul_int_3 (by decide) (SA.cons (SE.callN (SE.globF 17 g_mpf_abs rfl) rfl fs_mpf_abs_1 (by decide) (SA.cons (SE.varL 6 rfl) SA.nil (fun _ => rfl)) (.inr k_mpf_abs) (fun _ => rfl) NoStar.nil) (SA.cons (SE.item (SE.item (SE.varL 2 rfl) (SE.bin (SE.varL 1 rfl) SE.int) (fun _ _ => by with_unfolding_all rfl)) SE.int (fun _ _ => by with_unfolding_all rfl)) (SA.cons SE.int SA.nil (fun _ => rfl)) (fun _ => rfl)) (fun _ => rfl)) (.inr k_mpf_mul_int) (fun _ => rfl) (NoStar.cons (fun _ => rfl) (NoStar.cons (fun _ => rfl) NoStar.nil))) (SA.cons (SE.callN (SE.globF 13 g_from_int rfl) rfl fs_from_int_1 (by decide) (SA.cons SE.int SA.nil (fun _ => rfl)) (.inr k_from_int) (fun _ => rfl) NoStar.nil) SA.nil (fun _ => rfl)) (fun _ => rfl)) (.inr k_mpf_cmp) (fun _ => rfl) (NoStar.cons (fun _ => rfl) NoStar.nil)) rfl (.inl rfl) (fun _ => rfl))
 (SS.cons (S1.ite (ST.or2 (ST.cmp (SE.varL 8 rfl) SE.int rfl) (ST.cmp (SE.cmp (SE.varL 8 rfl) SE.int rfl) (SE.cmp (SE.varL 1 rfl) (SE.bin (SE.callN (SE.globB 15 g_len b_len (by decide) rfl) rfl FS.len (Nat.zero_le _) (SA.cons (SE.varL 2 rfl) SA.nil (fun _ => rfl)) (.inl (fun _ q => nomatch q)) (fun _ => rfl) NoStar.nil) SE.int) rfl) rfl)) (SS.cons (S1.ret SE.bool)
 SS.nil) SS.nil)
 (SS.cons (S1.unpack (SE.listComp (ix := 1) (js := [none, none, none, some 4, some 5]) SE.str TestsOk.nil (SE.callN (SE.globF 2 g_from_rational rfl) rfl fs_from_rational_4 (by decide) (SA.cons (SE.varC 3 rfl) (SA.cons (SE.varC 4 rfl) (SA.cons SE.int (SA.cons (SE.varL 1 rfl) SA.nil (fun _ => rfl)) (fun _ => rfl)) (fun _ => rfl)) (fun _ => rfl)) (.inr k_from_rational) (fun _ => rfl) (NoStar.cons (fun _ => rfl) (NoStar.cons (fun _ => rfl) (NoStar.cons (fun _ => rfl) NoStar.nil)))) rfl (by decide +kernel) (by decide +kernel) (by decide +kernel) rfl (fun _ _ => rfl)) (Tgts.cons (i := 9) rfl (.inl rfl) (Tgts.cons (i := 10) rfl (.inl rfl) Tgts.nil)) (fun _ => rfl) (fun _ => rfl))
 (SS.cons (S1.ret (SE.ite (ST.cmp (SE.varL 7 rfl) SE.int rfl) (SE.callN (SE.globF 19 g_mpf_le rfl) rfl fs_mpf_le_2 (by decide) (SA.cons (SE.varL 9 rfl) (SA.cons (SE.varC 0 rfl) SA.nil (fun _ => rfl)) (fun _ => rfl)) (.inr k_mpf_le) (fun _ => rfl) (NoStar.cons (fun _ => rfl) NoStar.nil)) (SE.callN (SE.globF 19 g_mpf_le rfl) rfl fs_mpf_le_2 (by decide) (SA.cons (SE.varC 0 rfl) (SA.cons (SE.varL 10 rfl) SA.nil (fun _ => rfl)) (fun _ => rfl)) (.inr k_mpf_le) (fun _ => rfl) (NoStar.cons (fun _ => rfl) NoStar.nil))))
 SS.nil)))) SS.nil)
 (SS.cons (S1.ret (SE.callN (SE.globB 20 g_all b_all (by decide) rfl) rfl FS.all (Nat.zero_le _) (SA.cons (SE.listComp (ix := 1) (js := [none, none, none, some 4, some 5, some 0]) SE.str TestsOk.nil (SE.cmp (SE.callN (SE.globF 2 g_from_rational rfl) rfl fs_from_rational_4 (by decide) (SA.cons (SE.varC 3 rfl) (SA.cons (SE.varC 4 rfl) (SA.cons SE.int (SA.cons (SE.varL 1 rfl) SA.nil (fun _ => rfl)) (fun _ => rfl)) (fun _ => rfl)) (fun _ => rfl)) (.inr k_from_rational) (fun _ => rfl) (NoStar.cons (fun _ => rfl) (NoStar.cons (fun _ => rfl) (NoStar.cons (fun _ => rfl) NoStar.nil)))) (SE.varC 5 rfl) rfl) rfl (by decide +kernel) (by decide +kernel) (by decide +kernel) rfl (fun _ _ => rfl)) SA.nil (fun _ => rfl)) (.inl (fun _ q => nomatch q)) (fun _ => rfl) NoStar.nil))
 SS.nil)))))))
  case hl => rintro pvs P ⟨_, _, _, _, _, _, _, rfl, _⟩; rfl
  case hC =>
    rintro pvs P ⟨a, B, l, k, far, p, q, rfl, ok, h⟩
    obtain ⟨hk, hl, hq, hB, ba, bq, bp, hodd, hev, hod, hz, hfar, hnx⟩ := ok
    have hkl : (tups l)[k]? = some (.tuple [.int p, .int q]) := by unfold tups; rw [List.getElem?_map, hk]; rfl
    have hkt : ((k : Int)).toNat = k := Int.toNat_natCast k
    have hlen : (tups l).length = l.length := by unfold tups; rw [List.length_map]
    walk_at "vc"
    simp only [hkt, hkl, hlen]
    walk_at "vc"
    have bq' := nb_pos' (show q ≠ 0 by omega)
    have hkl2 : k < l.length := (List.getElem?_eq_some_iff.mp hk).1
    refine ⟨by omega, by omega, a, _, q, 500, rfl, hq, by omega, by decide, p, rfl, a * q, p * 2 ^ B, -(B : Int), ?_, ?_, ?_, ?_⟩
    · rw [nrm_scale, show -(B : Int) + (B : Nat) = 0 by omega]
    · rw [Int.natAbs_mul, Int.natAbs_natCast]; have := nb_mul_le a.natAbs q; omega
    · rw [natAbs_mul_pow]
      rcases Nat.eq_zero_or_pos p.natAbs with z | z
      · rw [z, Nat.zero_mul, nb_zero]; omega
      · rw [nb_shl B (by omega)]; omega
    rw [show a * (q : Int) - p * 2 ^ B = dd a B p q from rfl]
    have bD : nb (dd a B p q).natAbs ≤ 300 := by
      unfold dd
      refine Nat.le_trans (natAbs_sub_nb (k := 250) ?_ ?_) (by decide)
      · rw [Int.natAbs_mul, Int.natAbs_natCast]; have := nb_mul_le a.natAbs q; omega
      · rw [natAbs_mul_pow]
        rcases Nat.eq_zero_or_pos p.natAbs with z | z
        · rw [z, Nat.zero_mul, nb_zero]; omega
        · rw [nb_shl B (by omega)]; omega
    have hDdef : dd a B p q = a * q - p * 2 ^ B := rfl
    generalize dd a B p q = D at *
    refine ⟨fun ρ' => ∃ side : Int, (k % 2 = 0 ∧ side = 1 ∨ k % 2 ≠ 0 ∧ side = -1) ∧ ρ' = oneEnv (nrm a (-(B : Int))) k l far p q (nrm D (-(B : Int))) side, ⟨by decide, fun e => ⟨1, .inl ⟨?_, rfl⟩, rfl⟩, fun e => ⟨-1, .inr ⟨?_, rfl⟩, rfl⟩⟩, ?_⟩
    · rw [show (k : Int).fmod 2 = ((k % 2 : Nat) : Int) from fmod_nat k 2] at e; omega
    · rw [show (k : Int).fmod 2 = ((k % 2 : Nat) : Int) from fmod_nat k 2] at e; omega
    rintro ρ' ⟨side, hside, rfl⟩
    have hok : IntMulOk (Int.sign D) side := IntMulOk.of_right (by rcases hside with ⟨_, rfl⟩ | ⟨_, rfl⟩ <;> decide)
    have hsg : ¬ Int.sign D * side < 0 := by
      rcases hside with ⟨q1, rfl⟩ | ⟨q1, rfl⟩
      · have := Int.sign_nonneg_iff.mpr (hev q1); omega
      · have := hod q1
        have : 0 ≤ Int.sign (-D) := Int.sign_nonneg_iff.mpr (by omega)
        rw [Int.sign_neg] at this; omega
    refine ⟨fun ρ' => ρ' = oneEnv (nrm a (-(B : Int))) k l far p q (nrm D (-(B : Int))) side, ?_, ?_⟩
    · unfold oneEnv
      walk_at "vc"
      refine ⟨D, _, rfl, ?_⟩
      walk_at "vc"
      refine ⟨hok, fun q => ?_, fun q => ?_⟩
      · refine ⟨D, _, rfl, ?_⟩
        walk_at "vc"
        rw [hlen]
        have heq : decide (Int.sign D = 0) = decide ((k : Int) = (l.length : Int) - 1) := by
          rw [decide_eq_decide, Int.sign_eq_zero_iff_zero, hz]; omega
        exact ⟨by omega, fun q => absurd heq q, fun _ => trivial⟩
      · exact absurd q hsg
    rintro ρ' rfl
    refine ⟨fun ρ' => ρ' = oneEnv (nrm a (-(B : Int))) k l far p q (nrm D (-(B : Int))) side, ?_, ?_⟩
    · unfold oneEnv
      walk_at "vc"
      refine ⟨fun hk0 => ?_, fun _ => trivial⟩
      obtain ⟨F, rfl, hF, hDF⟩ := hfar (by omega)
      refine ⟨D, _, rfl, D.natAbs, F, _, rfl, by rw [Int.natAbs_natCast]; omega, by omega, ?_⟩
      rw [decide_eq_true hDF]
      walk_at "vc"
    rintro ρ' rfl
    unfold oneEnv
    walk_at "vc"
    rw [hlen]
    refine ⟨by omega, fun hlt => ?_, fun hge => ?_⟩
    · obtain ⟨p', q', hk', hq', bq2, hle, heq⟩ := hnx (by omega)
      have hkl' : (tups l)[k + 1]? = some (.tuple [.int p', .int q']) := by unfold tups; rw [List.getElem?_map, hk']; rfl
      have hkt' : ((k : Int) + 1).toNat = k + 1 := by omega
      refine ⟨D, _, rfl, ?_⟩
      walk_at "vc"
      simp only [hkt', hkl']
      walk_at "vc"
      have bq2' := nb_pos' (show q' ≠ 0 by omega)
      refine ⟨by omega, by omega, D.natAbs, _, q', 500, rfl, hq', by rw [Int.natAbs_natCast]; omega, by decide, 1, rfl, (D.natAbs : Int) * q', 1 * 2 ^ B, -(B : Int), ?_, ?_, ?_, ?_⟩
      · rw [nrm_scale, show -(B : Int) + (B : Nat) = 0 by omega]
      · rw [Int.natAbs_mul, Int.natAbs_natCast, Int.natAbs_natCast]; have := nb_mul_le D.natAbs q'; omega
      · exact Nat.le_trans (nb_shi (k := 1) (by decide)) (by omega)
      have hle' : (D.natAbs : Int) * q' ≤ 1 * 2 ^ B := by rw [Int.one_mul]; exact_mod_cast hle
      have heq' : ((D.natAbs : Int) * q' = 1 * 2 ^ B) ↔ k + 2 = l.length := by rw [← heq, Int.one_mul]; norm_cast
      have key : ∀ v9 : PV, compVC [Option.none, Option.none, Option.none, some 4, some 5] 1 (fun x P => P true)
                            (fun ρ P =>
                              getV ρ 3 fun a =>
                                getV ρ 4 fun a_5 => getV ρ 1 fun a_6 => C_frat [a, a_5, PV.d (PyData.int 40), a_6] P)
                            [some (PV.d (nrm a (-↑B))), some (PV.d (PyData.int ↑k)), some (PV.d (PyData.list (tups l))),
                              some far, some (PV.d (PyData.int p)), some (PV.d (PyData.int ↑q)),
                              some (PV.d (nrm D (-↑B))), some (PV.d (PyData.int side)), some v9, none, none, none, none,
                              none, none, none, none, none, none, none, none]
                            (fun v_1 =>
                              unpackVC v_1 2
                                [some (PV.d (nrm a (-↑B))), some (PV.d (PyData.int ↑k)),
                                  some (PV.d (PyData.list (tups l))), some far, some (PV.d (PyData.int p)),
                                  some (PV.d (PyData.int ↑q)), some (PV.d (nrm D (-↑B))), some (PV.d (PyData.int side)),
                                  some v9, none, none, none, none, none, none, none, none, none, none, none, none]
                                [9, 10] fun ρ' =>
                                getV ρ' 7 fun a =>
                                  cmpVC CmpOp.Gt a (PV.d (PyData.int 0)) fun c =>
                                    (c = true → getV ρ' 9 fun a => getV ρ' 0 fun a_5 => C_le4 [a, a_5] P) ∧
                                      (c = false → getV ρ' 0 fun a => getV ρ' 10 fun a_5 => C_le4 [a, a_5] P))
                            (PV.d (PyData.str (Str.ofString "fc"))) := by
        intro v9
        have hlst : ((Str.ofString "fc").cps.toList.map fun c => PyData.str ⟨#[c]⟩) = [.str (Str.ofString "f"), .str (Str.ofString "c")] := by rfl
        unfold compVC itemsVC
        refine ⟨by decide +kernel, ?_⟩
        rw [hlst]
        have hev2 : ∀ (it : PyData) x1 x2 x3 x6 x7, itemEnv [Option.none, Option.none, Option.none, some 4, some 5] 1 [some (PV.d (nrm a (-↑B))), x1, x2, x3, some (PV.d (PyData.int p)), some (PV.d (PyData.int ↑q)), x6, x7, some v9, none, none, none, none, none, none, none, none, none, none, none, none] it =
          [Option.none, some (.d it), Option.none, some (.d (.int p)), some (.d (.int q))] := fun _ _ _ _ _ _ => rfl
        refine ⟨by decide, fun i acc => (i = 0 ∧ acc = []) ∨ (i = 1 ∧ ∃ x, FRx (Str.ofString "f") 40 p q x ∧ acc = [x]) ∨ (i = 2 ∧ ∃ x y, FRx (Str.ofString "f") 40 p q x ∧ FRx (Str.ofString "c") 40 p q y ∧ acc = [x, y]), .inl ⟨rfl, rfl⟩,
          fun i acc it hit hacc => ⟨fun _ => ?_, fun q => nomatch q⟩, fun acc hacc => ?_⟩
        · rw [hev2]
          rcases hacc with ⟨rfl, rfl⟩ | ⟨rfl, x, hx, rfl⟩ | ⟨rfl, _⟩
          · obtain rfl : PyData.str (Str.ofString "f") = it := by simpa using hit
            walk_at "vc"
            refine ⟨p, q, 40, _, rfl, by unfold Mode; simp, hq, by decide, by decide, by omega, by omega, fun x hx => ⟨x, rfl, ?_, .inr (.inl ⟨x, hx, rfl⟩)⟩⟩
            obtain ⟨R, u, v, _, _, _, rfl, _⟩ := fr_nrm hx hq
            exact nl_nrm
          · obtain rfl : PyData.str (Str.ofString "c") = it := by simpa using hit
            walk_at "vc"
            refine ⟨p, q, 40, _, rfl, by unfold Mode; simp, hq, by decide, by decide, by omega, by omega, fun y hy => ⟨y, rfl, ?_, .inr (.inr ⟨x, y, hx, hy, rfl⟩)⟩⟩
            obtain ⟨R, u, v, _, _, _, rfl, _⟩ := fr_nrm hy hq
            exact nl_nrm
          · simp at hit
        · obtain ⟨x, y, hx, hy, rfl⟩ : ∃ x y, FRx (Str.ofString "f") 40 p q x ∧ FRx (Str.ofString "c") 40 p q y ∧ acc = [x, y] := by
            rcases hacc with ⟨q, _⟩ | ⟨q, _⟩ | ⟨_, q⟩
            · simp at q
            · simp at q
            · exact q
          walk_at "vc"
          have hu : ∀ {R : Int} {u v : Nat}, nrm R ((v : Int) - u) = nrm (R * 2 ^ (v + B)) (-(B : Int) - u) := fun {R u v} => by rw [nrm_scale]; congr 1; push_cast; omega
          have hs : ∀ {u : Nat}, nrm a (-(B : Int)) = nrm (a * 2 ^ u) (-(B : Int) - u) := fun {u} => by rw [nrm_scale]; congr 1; omega
          refine ⟨fun hsd => ?_, fun hsd => ?_⟩
          · obtain ⟨R, u, v, hu1, hv1, hR, rfl, hfl, _⟩ := fr_nrm hx hq
            have hD := hev (by omega)
            refine ⟨R * 2 ^ (v + B), a * 2 ^ u, -(B : Int) - u, by rw [← hu, ← hs], Nat.le_trans (nb_shi hR) (by omega), Nat.le_trans (nb_shi ba) (by omega), ?_⟩
            rw [decide_eq_true (le_core hq (hfl rfl) (by omega))]; exact h
          · obtain ⟨R, u, v, hu1, hv1, hR, rfl, _, hce⟩ := fr_nrm hy hq
            have hD := hod (by omega)
            refine ⟨a * 2 ^ u, R * 2 ^ (v + B), -(B : Int) - u, by rw [← hu, ← hs], Nat.le_trans (nb_shi ba) (by omega), Nat.le_trans (nb_shi hR) (by omega), ?_⟩
            rw [decide_eq_true (ge_core hq (hce rfl) (by omega))]; exact h
      refine ⟨fun hv => ?_, fun hv => ?_, fun hv => ?_⟩
      · walk_at "vc"
        refine ⟨fun _ => ⟨by omega, fun hne => absurd ?_ hne, fun _ => key _⟩, fun q => by omega⟩
        rw [decide_eq_decide]
        exact iff_of_false (by decide) fun e => Int.ne_of_lt hv (heq'.mpr (by omega))
      · walk_at "vc"
        refine ⟨fun _ => ⟨by omega, fun hne => absurd ?_ hne, fun _ => key _⟩, fun q => by omega⟩
        rw [decide_eq_decide]
        exact iff_of_true trivial (by have := heq'.mp hv; omega)
      · exact absurd hv (by omega)
    · have hD0 : D = 0 := hz.mpr (by omega)
      obtain ⟨m, z, hm, bm, bz⟩ := hodd
      have hlst : ((Str.ofString "nfcdu").cps.toList.map fun c => PyData.str ⟨#[c]⟩) = [.str (Str.ofString "n"), .str (Str.ofString "f"), .str (Str.ofString "c"), .str (Str.ofString "d"), .str (Str.ofString "u")] := by rfl
      have hmodes : ∀ it ∈ [PyData.str (Str.ofString "n"), .str (Str.ofString "f"), .str (Str.ofString "c"), .str (Str.ofString "d"), .str (Str.ofString "u")], ∃ r, Mode r ∧ it = .str r := by
        intro it hit
        simp only [List.mem_cons, List.not_mem_nil, or_false] at hit
        unfold Mode
        rcases hit with h | h | h | h | h <;> subst h <;> exact ⟨_, by simp, rfl⟩
      unfold compVC itemsVC
      refine ⟨by decide +kernel, ?_⟩
      rw [hlst]
      refine ⟨by decide, fun i acc => acc = List.replicate i (.bool true), rfl, fun i acc it hit hacc => ⟨fun _ => ?_, fun q => nomatch q⟩, fun acc hacc => ?_⟩
      · obtain ⟨r, hr, rfl⟩ := hmodes it (List.mem_of_getElem? hit)
        rw [show ∀ x1 x2 x3 x6 x7, itemEnv [Option.none, Option.none, Option.none, some 4, some 5, some 0] 1 [some (PV.d (nrm a (-↑B))), x1, x2, x3, some (PV.d (PyData.int p)), some (PV.d (PyData.int ↑q)), x6, x7, none, none, none, none, none, none, none, none, none, none, none, none, none] (.str r) =
          [Option.none, some (.d (.str r)), Option.none, some (.d (.int p)), some (.d (.int q)), some (.d (nrm a (-(B : Int))))] from fun _ _ _ _ _ => rfl]
        walk_at "vc"
        refine ⟨p, q, 40, r, rfl, hr, hq, by decide, by decide, by omega, by omega, fun x hx => ?_⟩
        have := fr_hit hx hq (by decide) (by decide) (show a * (q : Int) = p * 2 ^ B by omega) hm bm (by omega) (by omega)
        subst this
        obtain ⟨c1, c2, c3, c4, hc, _⟩ := nrm_four a (-(B : Int))
        rw [hc]
        walk_at "vc"
        refine ⟨.bool true, by simp, rfl, ?_⟩
        rw [hacc]; exact (List.replicate_succ').symm
      · subst hacc
        unfold C_all
        exact ⟨List.replicate 5 true, by rfl, h⟩
end
end Mine

-- ---------- Fn10 ----------
set_option maxRecDepth 100000
set_option autoImplicit false
set_option linter.all false
set_option Elab.async false
set_option maxHeartbeats 4000000
namespace Mine
open PySem PySem.W PyProof.Rows PySem.Calls PySem.Spec

local macro_rules | `(tactic| walk_at "vc") => `(tactic| simp only [init, List.map_cons, List.map_nil, List.cons_append, List.nil_append, List.append_nil, List.length_cons, List.length_nil, List.replicate, List.replicate_zero, List.replicate_succ, List.reverse_cons, List.reverse_nil,
  Nat.reduceAdd, Nat.reduceSub, v_add, v_sub, v_mul, v_div, v_mod, v_shl, v_shr, v_and, v_xor, v_pow, v_iadd, v_isub, v_imul, v_ishl, v_ishr, v_ixor, v_tint, v_tbool, v_tnone, v_usub, v_unot, v_lt, v_le, v_gt, v_ge, v_eqi, v_nei, v_eqs, v_neb, v_eq4, v_in4, v_eq2,
  v_bits, v_get0, v_getS, v_set0, v_setS, v_all0, v_allS, v_sets0, v_setsS, v_nsets0, v_nsetsS, v_unt, v_unl, v_itl, v_it0, v_it1, v_it2, v_it3, v_int, v_abs, v_len, v_divmod, v_isint, v_shift,
  Bool.not_eq_true', Bool.not_eq_false', bne_iff_ne, ne_eq, bne_eq_false_iff_eq, Bool.not_true, Bool.not_false, decide_eq_true_eq, decide_eq_false_iff_not, true_and, and_true, forall_const, reduceCtorEq, false_implies, true_implies])
-- fsd: the plain goals of FS.def
local macro_rules | `(tactic| walk_at "fsd") => `(tactic| (
  (case ho => exact rfl)
  (case hcd => exact rfl)
  (case e1 => exact rfl)
  (case e2 => decide)
  (case e3 => decide)
  (case e10 => decide)
  (case e4 => decide)
  (case e5 => decide)
  (case e6 => exact rfl)
  (case e7 => exact rfl)
  (case e8 => exact rfl)
  (case e9 => exact rfl)
  skip))

theorem nrm_red_inj {a a' : Int} {B B' : Nat} (h : nrm a (-(B : Int)) = nrm a' (-(B' : Int))) (h1 : B = 0 ∨ a % 2 ≠ 0) (h2 : B' = 0 ∨ a' % 2 ≠ 0) : a = a' ∧ B = B' := by
  have key : ∀ {x : Int} {sg : Int} {M z : Nat}, (sg = 0 ∨ sg = 1) → M % 2 = 1 → x = sgn sg (M * 2 ^ z) → x % 2 ≠ 0 → z = 0 := by
    intro x sg M z hs hM hx hodd
    rcases Nat.eq_zero_or_pos z with q | q
    · exact q
    · exfalso
      obtain ⟨y, rfl⟩ : ∃ y, z = y + 1 := ⟨z - 1, by omega⟩
      rw [Nat.pow_succ, ← Nat.mul_assoc] at hx
      rcases hs with rfl | rfl
      · rw [sgn_zero] at hx; omega
      · rw [sgn_one] at hx; omega
  rcases nrm_cases a (-(B : Int)) with ⟨ha, hq⟩ | ⟨ha, sg, M, z, hs, hM, hN, hq⟩
  · rcases nrm_cases a' (-(B' : Int)) with ⟨ha', hq'⟩ | ⟨ha', sg', M', z', hs', hM', hN', hq'⟩
    · subst ha ha'
      exact ⟨rfl, by rcases h1 with h1 | h1 <;> rcases h2 with h2 | h2 <;> omega⟩
    · rw [hq, hq'] at h; unfold fz mk at h
      simp only [PyData.tuple.injEq, List.cons.injEq, PyData.int.injEq] at h; omega
  · rcases nrm_cases a' (-(B' : Int)) with ⟨ha', hq'⟩ | ⟨ha', sg', M', z', hs', hM', hN', hq'⟩
    · rw [hq, hq'] at h; unfold fz mk at h
      simp only [PyData.tuple.injEq, List.cons.injEq, PyData.int.injEq] at h; omega
    · rw [hq, hq'] at h; unfold mk at h
      simp only [PyData.tuple.injEq, List.cons.injEq, PyData.int.injEq] at h
      obtain ⟨e1, e2, e3, _⟩ := h
      have e2' : M = M' := by omega
      subst e1 e2'
      have k1 : B = 0 ∨ z = 0 := h1.imp id fun q => key hs hM hN q
      have k2 : B' = 0 ∨ z' = 0 := h2.imp id fun q => key hs hM' hN' q
      have k3 : B = B' ∧ z = z' := by omega
      exact ⟨by rw [hN, hN', k3.2], k3.1⟩
def farOf (a : Int) (B : Nat) (l : List (Int × Int)) : Nat → PV
  | 0 => .d .none
  | k + 1 => match l[k]? with
    | some x => .d (nrm ((a * x.2 - x.1 * 2 ^ B).natAbs : Int) (-(B : Int)))
    | none => .d .none
def NearOk (a : Int) (B : Nat) (l : List (Int × Int)) : Prop := ∀ (k : Nat) (p q : Int), l[k]? = some (p, q) → ∃ Q : Nat, q = (Q : Int) ∧ OneOk a B l k (farOf a B l k) p Q
section
variable {w : World} {p : Program} {loose : List Str} {mg mb : Str → Option Value} {n : Nat} {cs : Scope}
def C_near (pvs : List PV) (P : PV → Prop) : Prop := ∃ (a : Int) (B : Nat), pvs = [.d (nrm a (-(B : Int)))] ∧ (B = 0 ∨ a % 2 ≠ 0) ∧ B ≤ 100 ∧ nb a.natAbs ≤ 100 ∧ (rowsOf a (2 ^ B) 0 1 1 0).length ≤ 1000 ∧ NearOk a B (rowsOf a (2 ^ B) 0 1 1 0) ∧ P (.d (.bool true))
theorem fs_ulaw_near_right_1 : FS (DD w p loose mg mb) (.ref 192) 10 C_near := by
  refine' FS.def (ps := [Str.ofString "s"]) (k := 1) (dfl := []) ?ho ?hcd ?hb ?e1 ?e2 ?e3 ?e10 ?e4 ?e5 ?e6 ?e7 ?e8 ?hS ?e9 ?hl ?hC
  walk_at "fsd"
  case hb => intro s vs G hl; match vs, hl with
    | [_], _ => exact ⟨[], .of_eq rfl, trivial⟩
  case hS => exact (SS.cons (S1.assign (i := 1) (SE.callN (SE.globF 4 g_ulaw_row rfl) rfl fs_ulaw_row_2 (by decide) (SA.cons (SE.item (SE.callN (SE.globF 5 g_to_rational rfl) rfl fs_to_rational_1 (by decide) (SA.cons (SE.varL 0 rfl) SA.nil (fun _ => rfl)) (.inr k_to_rational) (fun _ => rfl) NoStar.nil) SE.int (fun _ _ => by with_unfolding_all rfl)) (SA.cons (SE.item (SE.callN (SE.globF 5 g_to_rational rfl) rfl fs_to_rational_1 (by decide) (SA.cons (SE.varL 0 rfl) SA.nil (fun _ => rfl)) (.inr k_to_rational) (fun _ => rfl) NoStar.nil) SE.int (fun _ _ => by with_unfolding_all rfl)) SA.nil (fun _ => rfl)) (fun _ => rfl)) (.inr k_ulaw_row) (fun _ => rfl) (NoStar.cons (fun _ => rfl) NoStar.nil)) rfl (.inl rfl) (fun _ => rfl))
 (SS.cons (S1.assign (i := 2) SE.none rfl (.inl rfl) (fun _ => rfl))
 (SS.cons (S1.forRange (i := 3) (ir := 6) rfl rfl g_range (SE.callN (SE.globB 7 g_len b_len (by decide) rfl) rfl FS.len (Nat.zero_le _) (SA.cons (SE.varL 1 rfl) SA.nil (fun _ => rfl)) (.inl (fun _ q => nomatch q)) (fun _ => rfl) NoStar.nil) (SS.cons (S1.ite (ST.not (ST.val (SE.callN (SE.globF 8 g_ulaw_one_right rfl) rfl fs_ulaw_one_right_4 (by decide) (SA.cons (SE.varL 0 rfl) (SA.cons (SE.varL 3 rfl) (SA.cons (SE.varL 1 rfl) (SA.cons (SE.varL 2 rfl) SA.nil (fun _ => rfl)) (fun _ => rfl)) (fun _ => rfl)) (fun _ => rfl)) (.inr k_ulaw_one_right) (fun _ => rfl) (NoStar.cons (fun _ => rfl) (NoStar.cons (fun _ => rfl) (NoStar.cons (fun _ => rfl) NoStar.nil)))) (fun _ _ => rfl))) (SS.cons (S1.ret SE.bool)
 SS.nil) SS.nil)
 (SS.cons (S1.assign (i := 2) (SE.callN (SE.globF 9 g_mpf_abs rfl) rfl fs_mpf_abs_1 (by decide) (SA.cons (SE.callN (SE.globF 10 g_mpf_sub rfl) rfl fs_mpf_sub_2 (by decide) (SA.cons (SE.callN (SE.globF 11 g_mpf_mul_int rfl) rfl fs_mpf_mul_int_3 (by decide) (SA.cons (SE.varL 0 rfl) (SA.cons (SE.item (SE.item (SE.varL 1 rfl) (SE.varL 3 rfl) (fun _ _ => by with_unfolding_all rfl)) SE.int (fun _ _ => by with_unfolding_all rfl)) (SA.cons SE.int SA.nil (fun _ => rfl)) (fun _ => rfl)) (fun _ => rfl)) (.inr k_mpf_mul_int) (fun _ => rfl) (NoStar.cons (fun _ => rfl) (NoStar.cons (fun _ => rfl) NoStar.nil))) (SA.cons (SE.callN (SE.globF 12 g_from_int rfl) rfl fs_from_int_1 (by decide) (SA.cons (SE.item (SE.item (SE.varL 1 rfl) (SE.varL 3 rfl) (fun _ _ => by with_unfolding_all rfl)) SE.int (fun _ _ => by with_unfolding_all rfl)) SA.nil (fun _ => rfl)) (.inr k_from_int) (fun _ => rfl) NoStar.nil) SA.nil (fun _ => rfl)) (fun _ => rfl)) (.inr k_mpf_sub) (fun _ => rfl) (NoStar.cons (fun _ => rfl) NoStar.nil)) SA.nil (fun _ => rfl)) (.inr k_mpf_abs) (fun _ => rfl) NoStar.nil) rfl (.inl rfl) (fun _ => rfl))
 SS.nil)) (fun _ => rfl) (fun _ _ => rfl))
 (SS.cons (S1.ret SE.bool)
 SS.nil))))
  case hl => rintro pvs P ⟨_, _, rfl, _⟩; rfl
  case hC =>
    rintro pvs P ⟨a, B, rfl, hred, hB, ba, hll, hnear, h⟩
    walk_at "vc"
    have e2B : (2 : Int) ^ B = ((2 ^ B : Nat) : Int) := by push_cast; rfl
    have b2B : nb (2 ^ B) ≤ 101 := nb_le (Nat.pow_lt_pow_right (by decide) (by omega))
    generalize hl : rowsOf a (2 ^ B) 0 1 1 0 = l at *
    have hlen : (tups l).length = l.length := by unfold tups; rw [List.length_map]
    have inj : ∀ (a' : Int) (B' : Nat), nrm a (-(B : Int)) = nrm a' (-(B' : Int)) → (B' = 0 ∨ a' % 2 = 1) → a = a' ∧ B = B' := fun a' B' e r => nrm_red_inj e hred (r.imp id fun q => by omega)
    refine ⟨a, _, rfl, by omega, by omega, by omega, fun a' B' e r => ?_⟩
    obtain ⟨rfl, rfl⟩ := inj a' B' e r
    walk_at "vc"
    refine ⟨a, _, rfl, by omega, by omega, by omega, fun a' B' e r => ?_⟩
    obtain ⟨rfl, rfl⟩ := inj a' B' e r
    walk_at "vc"
    refine ⟨a, 2 ^ B, by rw [e2B], by omega, by omega, ?_⟩
    rw [hl]
    walk_at "vc"
    rw [hlen]
    unfold forVC
    refine ⟨by omega, by omega, by omega, fun j ρ' => ∃ x : Option PV, ρ' = [some (.d (nrm a (-(B : Int)))), some (.d (.list (tups l))), some (farOf a B l j), x, none, none, none, none, none, none, none, none, none], ⟨none, rfl⟩, ?_, fun ρ' _ => h⟩
    rintro j ρ' hj ⟨x, rfl⟩
    have hj' : j < l.length := by omega
    obtain ⟨⟨p, q⟩, hpq⟩ : ∃ y, l[j]? = some y := ⟨l[j], List.getElem?_eq_getElem hj'⟩
    obtain ⟨Q, rfl, hone⟩ := hnear j p q hpq
    have hkl : (tups l)[j]? = some (.tuple [.int p, .int Q]) := by unfold tups; rw [List.getElem?_map, hpq]; rfl
    have hjt : ((j : Int)).toNat = j := Int.toNat_natCast j
    walk_at "vc"
    refine ⟨a, B, l, j, _, p, Q, rfl, hone, ?_⟩
    walk_at "vc"
    obtain ⟨_, _, hQ, _, _, bQ, bp, _⟩ := hone
    have bQ' := nb_pos' (show Q ≠ 0 by omega)
    simp only [hjt, hkl]
    walk_at "vc"
    refine ⟨by omega, by omega, a, _, Q, 500, rfl, hQ, by omega, by decide, by omega, by omega, p, rfl, a * Q, p * 2 ^ B, -(B : Int), ?_, ?_, ?_, _, _, rfl, ?_⟩
    · rw [nrm_scale, show -(B : Int) + (B : Nat) = 0 by omega]
    · rw [Int.natAbs_mul, Int.natAbs_natCast]; have := nb_mul_le a.natAbs Q; omega
    · exact Nat.le_trans (nb_shi bp) (by omega)
    · have hfar : farOf a B l (j + 1) = .d (nrm ((a * (Q : Int) - p * 2 ^ B).natAbs : Int) (-(B : Int))) := by
        show (match l[j]? with
          | some x => PV.d (nrm ((a * x.2 - x.1 * 2 ^ B).natAbs : Int) (-(B : Int)))
          | none => .d .none) = _
        rw [hpq]
      refine ⟨_, by rw [hfar]⟩
end
end Mine

-- ---------- Plain6 ----------
set_option maxRecDepth 100000
set_option autoImplicit false
set_option linter.all false
namespace Mine
open PySem PySem.W PyProof.Rows PySem.Calls PySem.Spec

/-! ## continued fractions -/
structure Inv (A : Int) (b : Nat) (j : Nat) (s : Int) (a' : Int) (b' : Nat) (p0 q0 p1 q1 : Int) : Prop where
  hs : s = if j % 2 = 0 then 1 else -1
  d1 : A * q1 - b * p1 = -(s * b')
  d0 : A * q0 - b * p0 = s * a'
  det : p1 * q0 - p0 * q1 = s
  tot : b' * q0 + a' * q1 = b
  zero : j = 0 → q0 = 1 ∧ q1 = 0
  one : 1 ≤ j → 1 ≤ q1 ∧ 0 ≤ q0 ∧ q0 ≤ q1 ∧ (b' : Int) < a'
theorem Inv.start {A : Int} {b : Nat} : Inv A b 0 1 A b 0 1 1 0 := ⟨by simp, by omega, by omega, by omega, by omega, fun _ => ⟨rfl, rfl⟩, fun h => by omega⟩
theorem Inv.step {A : Int} {b j : Nat} {s a' : Int} {b' : Nat} {p0 q0 p1 q1 : Int} (i : Inv A b j s a' b' p0 q0 p1 q1) (hb : b' ≠ 0) :
    Inv A b (j + 1) (-s) b' (a' % b').toNat p1 q1 (a' / b' * p1 + p0) (a' / b' * q1 + q0) := by
  have hb' : (0 : Int) < b' := by omega
  have h2 := Int.emod_nonneg a' (show (b' : Int) ≠ 0 by omega)
  have h3 := Int.emod_lt_of_pos a' hb'
  have h1 := Int.mul_ediv_add_emod a' b'
  obtain ⟨r, hr⟩ := Int.eq_ofNat_of_zero_le h2
  rw [hr] at h1 h3 ⊢
  rw [Int.toNat_natCast]
  have ht : 1 ≤ j → 1 ≤ a' / b' := fun hj => by
    have := (i.one hj).2.2.2
    exact (Int.le_ediv_iff_mul_le hb').mpr (by omega)
  generalize a' / b' = t at *
  have ha : a' = b' * t + r := by omega
  subst ha
  obtain ⟨hs, d1, d0, det, tot, zero, one⟩ := i
  refine ⟨?_, ?_, ?_, ?_, ?_, fun q => by omega, fun _ => ?_⟩
  · rw [hs]; split <;> split <;> omega
  · have e : A * (t * q1 + q0) - b * (t * p1 + p0) = t * (A * q1 - b * p1) + (A * q0 - b * p0) := by
      simp only [Int.mul_add, Int.mul_sub, Int.mul_left_comm]; omega
    rw [e, d1, d0]
    simp only [Int.mul_add, Int.mul_sub, Int.mul_neg, Int.neg_mul, Int.mul_left_comm, Int.mul_comm]; omega
  · rw [d1]; simp only [Int.neg_mul]
  · have e : (t * p1 + p0) * q1 - p1 * (t * q1 + q0) = -(p1 * q0 - p0 * q1) := by
      simp only [Int.mul_add, Int.add_mul, Int.mul_left_comm, Int.mul_comm, Int.mul_assoc]; omega
    rw [e, det]
  · rw [← tot]
    simp only [Int.mul_add, Int.add_mul, Int.mul_left_comm, Int.mul_comm, Int.mul_assoc]; omega
  · rcases Nat.eq_zero_or_pos j with hj | hj
    · obtain ⟨rfl, rfl⟩ := zero hj
      simp; omega
    · obtain ⟨k1, k2, k3, k4⟩ := one hj
      have k5 := ht hj
      have : q1 ≤ t * q1 := by
        have := Int.mul_le_mul_of_nonneg_right k5 (show 0 ≤ q1 by omega)
        omega
      refine ⟨by omega, by omega, by omega, by omega⟩

theorem state_at {A : Int} {b : Nat} : ∀ j, j ≤ (rowsOf A b 0 1 1 0).length → ∃ (s a' : Int) (b' : Nat) (p0 q0 p1 q1 : Int), Inv A b j s a' b' p0 q0 p1 q1 ∧ rowsOf a' b' p0 q0 p1 q1 = (rowsOf A b 0 1 1 0).drop j ∧
    (∀ i, j = i + 1 → (rowsOf A b 0 1 1 0)[i]? = some (p1, q1)) ∧ (∀ i, j = i + 2 → (rowsOf A b 0 1 1 0)[i]? = some (p0, q0))
  | 0, _ => ⟨1, A, b, 0, 1, 1, 0, Inv.start, rfl, fun i h => by omega, fun i h => by omega⟩
  | j + 1, h => by
    obtain ⟨s, a', b', p0, q0, p1, q1, inv, hd, h1, _⟩ := state_at (A := A) (b := b) j (by omega)
    have hb : b' ≠ 0 := fun q => by
      subst q; rw [rowsOf_zero] at hd
      have := congrArg List.length hd
      rw [List.length_drop] at this; simp at this; omega
    rw [rowsOf_pos hb] at hd
    have hd' : (rowsOf A b 0 1 1 0).drop (j + 1) = rowsOf b' (a' % b').toNat p1 q1 (a' / b' * p1 + p0) (a' / b' * q1 + q0) := by
      rw [← List.drop_drop, ← hd]; rfl
    have hj : (rowsOf A b 0 1 1 0)[j]? = some (a' / b' * p1 + p0, a' / b' * q1 + q0) := by
      have := List.getElem?_drop (xs := rowsOf A b 0 1 1 0) (i := j) (j := 0)
      rw [← hd] at this
      simpa using this.symm
    exact ⟨-s, b', _, p1, q1, _, _, inv.step hb, hd'.symm, fun i e => (show i = j by omega) ▸ hj, fun i e => h1 i (by omega)⟩

theorem drop_nil {α : Type} {l : List α} {j : Nat} (hj : j ≤ l.length) : l.drop j = [] ↔ j = l.length := by
  rw [List.drop_eq_nil_iff]; omega

/-- all that the rows tell -/
theorem row_facts {A : Int} {b : Nat} (hb0 : 0 < b) {j : Nat} {p q : Int} (h : (rowsOf A b 0 1 1 0)[j]? = some (p, q)) :
    ∃ (Q r : Nat) (s : Int), q = (Q : Int) ∧ 0 < Q ∧ Q ≤ b ∧ s = (if j % 2 = 0 then 1 else -1) ∧ A * Q - b * p = s * r ∧ r < b ∧ (r = 0 ↔ j + 1 = (rowsOf A b 0 1 1 0).length) ∧ (∃ x y : Int, p * x - y * Q = 1 ∨ p * x - y * Q = -1) ∧
      (∀ i, j = i + 1 → ∃ (p' q' : Int) (r' : Nat), (rowsOf A b 0 1 1 0)[i]? = some (p', q') ∧ (A * q' - b * p').natAbs = r' ∧ r < r') ∧
      (j + 1 < (rowsOf A b 0 1 1 0).length → ∃ (p' : Int) (Q' : Nat), (rowsOf A b 0 1 1 0)[j + 1]? = some (p', (Q' : Int)) ∧ 0 < Q' ∧ r * Q' ≤ b ∧ (r * Q' = b ↔ j + 2 = (rowsOf A b 0 1 1 0).length)) := by
  generalize hl : rowsOf A b 0 1 1 0 = l at *
  have hjl : j < l.length := (List.getElem?_eq_some_iff.mp h).1
  have st := @state_at A b
  rw [hl] at st
  obtain ⟨s1, a1, r, p0, q0, p1, q1, i1, hd1, hr1, hrr1⟩ := st (j + 1) (by omega)
  obtain ⟨rfl, rfl⟩ : p = p1 ∧ q = q1 := by have := hr1 j rfl; rw [h] at this; simpa using this
  obtain ⟨k1, k2, k3, k4⟩ := i1.one (by omega)
  obtain ⟨Q, rfl⟩ := Int.eq_ofNat_of_zero_le (show 0 ≤ q by omega)
  have hrz : r = 0 ↔ j + 1 = l.length := by
    rw [← drop_nil (l := l) (show j + 1 ≤ l.length by omega), ← hd1]
    constructor
    · rintro rfl; exact rowsOf_zero
    · intro e
      rcases Nat.eq_zero_or_pos r with q | q
      · exact q
      · rw [rowsOf_pos (by omega)] at e; cases e
  have ha1 : 0 < a1 := by omega
  obtain ⟨a1', rfl⟩ := Int.eq_ofNat_of_zero_le (show 0 ≤ a1 by omega)
  have htot : r * q0.toNat + a1' * Q = b := by
    have := i1.tot
    obtain ⟨u, rfl⟩ := Int.eq_ofNat_of_zero_le k2
    rw [Int.toNat_natCast]; exact_mod_cast this
  have hQb : Q ≤ b := by
    have : Q ≤ a1' * Q := Nat.le_mul_of_pos_left Q (by omega)
    have := Nat.zero_le (r * q0.toNat)
    omega
  have hab : a1' ≤ b := by
    have : a1' ≤ a1' * Q := Nat.le_mul_of_pos_right a1' (by omega)
    have := Nat.zero_le (r * q0.toNat)
    omega
  refine ⟨Q, r, -s1, rfl, by omega, hQb, ?_, ?_, by omega, hrz, ⟨q0, p0, ?_⟩, fun i hi => ?_, fun hlt => ?_⟩
  · rw [i1.hs]; split <;> split <;> omega
  · rw [i1.d1, Int.neg_mul]
  · have := i1.det
    rw [i1.hs] at this
    split at this
    · exact .inl this
    · exact .inr this
  · obtain ⟨s0, a0, b0, u0, v0, u1, v1, i0, hd0, hr0, _⟩ := st j (by omega)
    have e1 := hr0 i hi
    have e2 := hrr1 i (by omega)
    obtain ⟨rfl, rfl⟩ : p0 = u1 ∧ q0 = v1 := by rw [e1] at e2; simpa [eq_comm] using e2
    refine ⟨p0, q0, b0, e1, ?_, ?_⟩
    · rw [i0.d1, i0.hs]; split <;> simp
    · have e3 := i0.d1
      have e4 := i1.d0
      rw [e3, i0.hs, i1.hs] at e4
      have : (b0 : Int) = a1' := by split at e4 <;> split at e4 <;> omega
      omega
  · obtain ⟨s2, a2, r2, u0, v0, u1, v1, i2, hd2, hr2, hrr2⟩ := st (j + 2) (by omega)
    obtain ⟨rfl, rfl⟩ : p = u0 ∧ (Q : Int) = v0 := by have := hrr2 j rfl; rw [h] at this; simpa using this
    obtain ⟨m1, m2, m3, m4⟩ := i2.one (by omega)
    obtain ⟨Q', rfl⟩ := Int.eq_ofNat_of_zero_le (show 0 ≤ v1 by omega)
    have ha2 : a2 = r := by
      have e3 := i1.d1
      have e4 := i2.d0
      rw [e3, i1.hs, i2.hs] at e4
      split at e4 <;> split at e4 <;> omega
    subst ha2
    have ht2 : r2 * Q + r * Q' = b := by have := i2.tot; exact_mod_cast this
    have hrz2 : r2 = 0 ↔ j + 2 = l.length := by
      rw [← drop_nil (l := l) (show j + 2 ≤ l.length by omega), ← hd2]
      constructor
      · rintro rfl; exact rowsOf_zero
      · intro e
        rcases Nat.eq_zero_or_pos r2 with q | q
        · exact q
        · rw [rowsOf_pos (by omega)] at e; cases e
    refine ⟨u1, Q', hr2 (j + 1) rfl, by omega, by omega, ?_⟩
    rw [← hrz2]
    constructor
    · intro e
      have : r2 * Q = 0 := by omega
      rcases Nat.mul_eq_zero.mp this with q | q
      · exact q
      · omega
    · rintro rfl; omega
end Mine

-- ---------- Plain7 ----------
set_option maxRecDepth 100000
set_option autoImplicit false
set_option linter.all false
namespace Mine
open PySem PySem.W PyProof.Rows PySem.Calls PySem.Spec

theorem rowsOf_len : ∀ (b : Nat) (a : Int) (p0 q0 p1 q1 : Int), (b : Int) ≤ a → (rowsOf a b p0 q0 p1 q1).length ≤ nb a.natAbs + nb b := by
  intro b
  induction b using Nat.strongRecOn with
  | _ b ih =>
    intro a p0 q0 p1 q1 h
    rcases Nat.eq_zero_or_pos b with hb | hb
    · subst hb; rw [rowsOf_zero]; simp
    · rw [rowsOf_pos (by omega), List.length_cons]
      obtain ⟨u, rfl⟩ := Int.eq_ofNat_of_zero_le (show 0 ≤ a by omega)
      have e : ((u : Int) % (b : Int)).toNat = u % b := by norm_cast
      rw [e]
      have h1 := Nat.mod_lt u hb
      have h2 := ih (u % b) h1 (b : Int) p1 q1 ((u : Int) / b * p1 + p0) ((u : Int) / b * q1 + q0) (by omega)
      have h3 := nb_emod (show b ≠ 0 by omega) (show b ≤ u by omega)
      rw [Int.natAbs_natCast] at h2 ⊢
      omega
theorem rowsOf_len' {a : Int} {b : Nat} {p0 q0 p1 q1 : Int} : (rowsOf a b p0 q0 p1 q1).length ≤ 1 + 2 * nb b := by
  rcases Nat.eq_zero_or_pos b with hb | hb
  · subst hb; rw [rowsOf_zero]; simp
  · rw [rowsOf_pos (by omega), List.length_cons]
    have h2 := Int.emod_nonneg a (show (b : Int) ≠ 0 by omega)
    have h3 := Int.emod_lt_of_pos a (show (0 : Int) < b by omega)
    have h4 := rowsOf_len (a % b).toNat b p1 q1 (a / b * p1 + p0) (a / b * q1 + q0) (by omega)
    have h5 : nb (a % b).toNat ≤ nb b := nb_mono (by omega)
    rw [Int.natAbs_natCast] at h4
    omega

theorem near_ok {a : Int} {B : Nat} (hB : B ≤ 60) (ba : nb a.natAbs ≤ 60) (hm : ∃ m z : Nat, a.natAbs = m * 2 ^ z ∧ nb m ≤ 40 ∧ z ≤ 100) : (rowsOf a (2 ^ B) 0 1 1 0).length ≤ 1000 ∧ NearOk a B (rowsOf a (2 ^ B) 0 1 1 0) := by
  have hb0 : 0 < 2 ^ B := Nat.two_pow_pos B
  have b2B : nb (2 ^ B) ≤ 61 := nb_le (Nat.pow_lt_pow_right (by decide) (by omega))
  have hlen : (rowsOf a (2 ^ B) 0 1 1 0).length ≤ 1000 := by
    have := rowsOf_len' (a := a) (b := 2 ^ B) (p0 := 0) (q0 := 1) (p1 := 1) (q1 := 0)
    omega
  refine ⟨hlen, fun k p q h => ?_⟩
  obtain ⟨Q, r, s, rfl, hQ, hQb, hs, hD, hr, hrz, _, hprev, hnext⟩ := row_facts hb0 h
  generalize hl : rowsOf a (2 ^ B) 0 1 1 0 = l at *
  have e2B : ((2 ^ B : Nat) : Int) = 2 ^ B := by push_cast; rfl
  have hdd : dd a B p Q = s * r := by rw [← hD]; unfold dd; rw [Int.mul_comm p, e2B]
  have hab : (dd a B p Q).natAbs = r := by rw [hdd, hs]; split <;> simp
  have bp : nb p.natAbs ≤ 100 := by
    -- b p = a Q - D
    have e : ((2 ^ B : Nat) : Int) * p = a * Q - s * r := by omega
    have e1 : 2 ^ B * p.natAbs ≤ 2 ^ B * (a.natAbs + 1) := by
      have := congrArg Int.natAbs e
      rw [Int.natAbs_mul, Int.natAbs_natCast] at this
      have k1 : (a * (Q : Int)).natAbs ≤ a.natAbs * 2 ^ B := by
        rw [Int.natAbs_mul, Int.natAbs_natCast]; exact Nat.mul_le_mul_left _ hQb
      have k2 : (s * (r : Int)).natAbs ≤ 2 ^ B := by
        rw [Int.natAbs_mul, Int.natAbs_natCast, hs]; split <;> simp <;> omega
      rw [this, Nat.mul_add, Nat.mul_comm _ a.natAbs]
      omega
    have e2 : p.natAbs ≤ a.natAbs + 1 := Nat.le_of_mul_le_mul_left e1 hb0
    have e3 : a.natAbs + 1 ≤ 2 ^ 60 := by
      have := nb_lt a.natAbs
      have := Nat.pow_le_pow_right (show 0 < 2 by decide) ba
      omega
    exact Nat.le_trans (nb_le (k := 61) (Nat.lt_of_le_of_lt (Nat.le_trans e2 e3) (by decide))) (by decide)
  have bQ : ∀ {x : Nat}, x ≤ 2 ^ B → nb x ≤ 100 := fun hx => Nat.le_trans (nb_mono hx) (by omega)
  refine ⟨Q, rfl, h, hlen, hQ, by omega, by omega, bQ hQb, bp, hm, ?_, ?_, ?_, ?_, ?_⟩
  · intro hk; rw [hdd, hs, if_pos hk]; omega
  · intro hk; rw [hdd, hs, if_neg hk]; omega
  · rw [← hrz, ← hab]; omega
  · intro hk
    obtain ⟨i, rfl⟩ : ∃ i, k = i + 1 := ⟨k - 1, by omega⟩
    obtain ⟨p', q', r', h1, h2, h3⟩ := hprev i rfl
    refine ⟨r', ?_, ?_, by rw [hab]; omega⟩
    · show (match l[i]? with
          | some x => PV.d (nrm ((a * x.2 - x.1 * 2 ^ B).natAbs : Int) (-(B : Int)))
          | none => .d .none) = _
      rw [h1]
      show PV.d (nrm ((a * q' - p' * 2 ^ B).natAbs : Int) (-(B : Int))) = _
      rw [Int.mul_comm p', ← e2B, h2]
    · rw [Int.natAbs_natCast]
      have h4 : (rowsOf a (2 ^ B) 0 1 1 0)[i]? = some (p', q') := by rw [hl]; exact h1
      obtain ⟨Q'', r'', s'', rfl, _, _, hs'', hD'', hr'', _⟩ := row_facts hb0 h4
      have : r' = r'' := by rw [← h2, hD'', hs'']; split <;> simp
      have := nb_mono (show r' ≤ 2 ^ B by omega)
      omega
  · intro hk
    obtain ⟨p', Q', h1, h2, h3, h4⟩ := hnext hk
    have h5 : (rowsOf a (2 ^ B) 0 1 1 0)[k + 1]? = some (p', (Q' : Int)) := by rw [hl]; exact h1
    obtain ⟨Q'', _, _, e, _, hQ'', _⟩ := row_facts hb0 h5
    obtain rfl : Q' = Q'' := by omega
    exact ⟨p', Q', h1, h2, bQ hQ'', by rw [hab]; exact h3, by rw [hab]; exact h4⟩
end Mine

-- ---------- Plain8 ----------
set_option maxRecDepth 100000
set_option autoImplicit false
set_option linter.all false
namespace Mine
open PySem PySem.W PyProof.Rows PySem.Calls PySem.Spec

theorem nrm_red_le {R a : Int} {E B : Nat} (h : nrm R (-(E : Int)) = nrm a (-(B : Int))) (hred : B = 0 ∨ a % 2 = 1) : B ≤ E ∧ R = a * 2 ^ (E - B) := by
  have key : ∀ {x : Int} {sg : Int} {M z : Nat}, (sg = 0 ∨ sg = 1) → M % 2 = 1 → x = sgn sg (M * 2 ^ z) → x % 2 ≠ 0 → z = 0 := by
    intro x sg M z hs hM hx hodd
    rcases Nat.eq_zero_or_pos z with q | q
    · exact q
    · exfalso
      obtain ⟨y, rfl⟩ : ∃ y, z = y + 1 := ⟨z - 1, by omega⟩
      rw [Nat.pow_succ, ← Nat.mul_assoc] at hx
      rcases hs with rfl | rfl
      · rw [sgn_zero] at hx; omega
      · rw [sgn_one] at hx; omega
  rcases nrm_cases R (-(E : Int)) with ⟨ha, hq⟩ | ⟨ha, sg, M, z, hs, hM, hN, hq⟩
  · rcases nrm_cases a (-(B : Int)) with ⟨ha', hq'⟩ | ⟨ha', sg', M', z', hs', hM', hN', hq'⟩
    · subst ha ha'
      refine ⟨by omega, by rw [Int.zero_mul]⟩
    · rw [hq, hq'] at h; unfold fz mk at h
      simp only [PyData.tuple.injEq, List.cons.injEq, PyData.int.injEq] at h; omega
  · rcases nrm_cases a (-(B : Int)) with ⟨ha', hq'⟩ | ⟨ha', sg', M', z', hs', hM', hN', hq'⟩
    · rw [hq, hq'] at h; unfold fz mk at h
      simp only [PyData.tuple.injEq, List.cons.injEq, PyData.int.injEq] at h; omega
    · rw [hq, hq'] at h; unfold mk at h
      simp only [PyData.tuple.injEq, List.cons.injEq, PyData.int.injEq] at h
      obtain ⟨e1, e2, e3, _⟩ := h
      have e2' : M = M' := by omega
      subst e1 e2'
      have k1 : B = 0 ∨ z' = 0 := hred.imp id fun q => key hs hM' hN' (by omega)
      have hBE : B ≤ E := by omega
      refine ⟨hBE, ?_⟩
      rw [hN, hN', sgn_mul, Nat.mul_assoc, ← Nat.pow_add, show z = z' + (E - B) by omega]

theorem rfrac_near {r : Str} {sg : Int} {A B : Nat} (hB : 0 < B) : A ≤ rfrac r sg A B * B + B ∧ rfrac r sg A B * B ≤ A + B := by
  have h := Nat.div_add_mod A B
  have hm := Nat.mod_lt A hB
  rw [Nat.mul_comm] at h
  have : rfrac r sg A B = A / B ∨ rfrac r sg A B = A / B + 1 := by
    unfold rfrac
    repeat' split
    all_goals simp
  rcases this with e | e <;> rw [e]
  · omega
  · rw [Nat.add_mul]; omega

theorem fr_close {r : Str} {prec Q0 B : Nat} {P0 a : Int} {x : PyData} (h : FRx r prec P0 Q0 x) (hp : 70 ≤ prec) (hp2 : prec ≤ 99) (hP : P0.natAbs ≤ 2 ^ 20) (hQ : 0 < Q0) (hQ2 : Q0 ≤ 65536) (hx : x = nrm a (-(B : Int))) (hred : B = 0 ∨ a % 2 = 1) :
    B ≤ 120 ∧ nb a.natAbs ≤ 120 ∧ (a * Q0 - P0 * 2 ^ B).natAbs * 2 ^ 33 < 2 ^ B := by
  rcases h with ⟨rfl, rfl⟩ | ⟨hp0, u, v, hu, hv, h1, h2, rfl⟩
  · rw [← nrm_zero (e := -(0 : Nat))] at hx
    obtain ⟨e1, e2⟩ := nrm_red_le (E := 0) hx hred
    obtain rfl : B = 0 := by omega
    simp at e2
    subst e2
    simp [nb_zero]
  · generalize hsg : (if P0 < 0 then (1 : Int) else 0) = sg at *
    have hs : sg = 0 ∨ sg = 1 := by subst hsg; split <;> simp
    have hBp : 0 < Q0 * 2 ^ v := Nat.mul_pos hQ (Nat.two_pow_pos v)
    obtain ⟨n1, n2⟩ := rfrac_near (r := r) (sg := sg) (A := P0.natAbs * 2 ^ u) hBp
    have hTle := rfrac_le (r := r) (sg := sg) (A := P0.natAbs * 2 ^ u) (B := Q0 * 2 ^ v)
    generalize rfrac r sg (P0.natAbs * 2 ^ u) (Q0 * 2 ^ v) = T at *
    have hT99 : T ≤ 2 ^ 99 := by
      have h3 : P0.natAbs * 2 ^ u / (Q0 * 2 ^ v) < 2 ^ prec := (Nat.div_lt_iff_lt_mul hBp).mpr h2
      have := Nat.pow_le_pow_right (show 0 < 2 by decide) hp2
      omega
    -- the exponent
    have hlow : Q0 * 2 ^ v * 2 ^ 69 ≤ 2 ^ 20 * 2 ^ u := by
      have e1 : 2 ^ 69 ≤ 2 ^ (prec - 1) := Nat.pow_le_pow_right (by decide) (by omega)
      have e2 := Nat.mul_le_mul_right (Q0 * 2 ^ v) e1
      have e3 := Nat.mul_le_mul_right (2 ^ u) hP
      rw [Nat.mul_comm (Q0 * 2 ^ v)]
      exact Nat.le_trans e2 (Nat.le_trans h1 e3)
    have hv0 : 0 < 2 ^ v := Nat.two_pow_pos v
    have huv : v + 49 ≤ u := by
      rcases Nat.lt_or_ge u (v + 49) with q | q
      · exfalso
        have e1 : 2 ^ u ≤ 2 ^ (v + 48) := Nat.pow_le_pow_right (by decide) (by omega)
        rw [Nat.pow_add] at e1
        have e2 : 2 ^ v ≤ Q0 * 2 ^ v := Nat.le_mul_of_pos_left _ hQ
        omega
      · exact q
    obtain ⟨E, rfl⟩ : ∃ E, u = v + E := ⟨u - v, by omega⟩
    have hE : E < 116 := by
      rcases Nat.lt_or_ge E 116 with q | q
      · exact q
      · exfalso
        have e1 : 2 ^ (v + 116) ≤ 2 ^ (v + E) := Nat.pow_le_pow_right (by decide) (by omega)
        rw [Nat.pow_add] at e1
        have e2 : 2 ^ prec ≤ 2 ^ 99 := Nat.pow_le_pow_right (by decide) hp2
        have e3 := Nat.mul_le_mul e2 (Nat.mul_le_mul_right (2 ^ v) hQ2)
        have e4 : 2 ^ (v + E) ≤ P0.natAbs * 2 ^ (v + E) := Nat.le_mul_of_pos_left _ (by omega)
        omega
    rw [← nrm_sgn hs, show ((v : Int) - (v + E : Nat)) = -(E : Int) by omega] at hx
    obtain ⟨hBE, hR⟩ := nrm_red_le hx hred
    obtain ⟨k, rfl⟩ : ∃ k, E = B + k := ⟨E - B, by omega⟩
    rw [Nat.add_sub_cancel_left] at hR
    have hk0 : 0 < 2 ^ k := Nat.two_pow_pos k
    have hTa : T = a.natAbs * 2 ^ k := by
      have := congrArg Int.natAbs hR
      rwa [sgn_natAbs, natAbs_mul_pow] at this
    refine ⟨by omega, ?_, ?_⟩
    · have : a.natAbs ≤ a.natAbs * 2 ^ k := Nat.le_mul_of_pos_right _ hk0
      exact Nat.le_trans (nb_le (k := 100) (Nat.lt_of_le_of_lt (show a.natAbs ≤ 2 ^ 99 by omega) (by decide))) (by decide)
    · -- | T Q0 - |P0| 2^E | ≤ Q0
      have m1 : P0.natAbs * 2 ^ (B + k) ≤ T * Q0 + Q0 := by
        refine Nat.le_of_mul_le_mul_right (c := 2 ^ v) ?_ hv0
        calc P0.natAbs * 2 ^ (B + k) * 2 ^ v = P0.natAbs * 2 ^ (v + (B + k)) := by rw [Nat.pow_add 2 v, Nat.mul_assoc, Nat.mul_comm (2 ^ (B + k))]
          _ ≤ T * (Q0 * 2 ^ v) + Q0 * 2 ^ v := n1
          _ = (T * Q0 + Q0) * 2 ^ v := by rw [Nat.add_mul, Nat.mul_assoc]
      have m2 : T * Q0 ≤ P0.natAbs * 2 ^ (B + k) + Q0 := by
        refine Nat.le_of_mul_le_mul_right (c := 2 ^ v) ?_ hv0
        calc T * Q0 * 2 ^ v = T * (Q0 * 2 ^ v) := by rw [Nat.mul_assoc]
          _ ≤ P0.natAbs * 2 ^ (v + (B + k)) + Q0 * 2 ^ v := n2
          _ = (P0.natAbs * 2 ^ (B + k) + Q0) * 2 ^ v := by rw [Nat.add_mul, Nat.pow_add 2 v, Nat.mul_assoc, Nat.mul_comm (2 ^ (B + k))]
      have m3 : Q0 * 2 ^ 49 ≤ 2 ^ (B + k) := by
        refine Nat.le_of_mul_le_mul_right (c := 2 ^ v * 2 ^ 20) ?_ (Nat.mul_pos hv0 (by decide))
        calc Q0 * 2 ^ 49 * (2 ^ v * 2 ^ 20) = Q0 * 2 ^ v * 2 ^ 69 := by
              rw [show (2 : Nat) ^ 69 = 2 ^ 49 * 2 ^ 20 by decide]; simp only [Nat.mul_assoc, Nat.mul_comm, Nat.mul_left_comm]
          _ ≤ 2 ^ 20 * 2 ^ (v + (B + k)) := hlow
          _ = 2 ^ (B + k) * (2 ^ v * 2 ^ 20) := by rw [Nat.pow_add 2 v]; simp only [Nat.mul_assoc, Nat.mul_comm, Nat.mul_left_comm]
      have m4 : (a * Q0 - P0 * 2 ^ B).natAbs * 2 ^ k ≤ Q0 := by
        have e1 : (a * (Q0 : Int) - P0 * 2 ^ B) * 2 ^ k = sgn sg T * Q0 - P0 * 2 ^ (B + k) := by
          rw [hR, Int.sub_mul, Int.pow_add]; simp only [Int.mul_assoc, Int.mul_comm, Int.mul_left_comm]
        have e2 : P0 = sgn sg P0.natAbs := by
          subst hsg; unfold sgn; split <;> split <;> omega
        have e3 : sgn sg T * (Q0 : Int) - P0 * 2 ^ (B + k) = sgn sg 1 * (((T * Q0 : Nat) : Int) - ((P0.natAbs * 2 ^ (B + k) : Nat) : Int)) := by
          conv => lhs; rw [e2]
          rcases hs with rfl | rfl
          · simp only [sgn_zero]; push_cast; omega
          · simp only [sgn_one, Int.neg_mul]; push_cast; omega
        rw [← natAbs_mul_pow, e1, e3, Int.natAbs_mul, sgn_natAbs]
        omega
      refine Nat.lt_of_mul_lt_mul_right (a := 2 ^ k) ?_
      rw [← Nat.pow_add]
      calc (a * Q0 - P0 * 2 ^ B).natAbs * 2 ^ 33 * 2 ^ k = (a * Q0 - P0 * 2 ^ B).natAbs * 2 ^ k * 2 ^ 33 := by simp only [Nat.mul_assoc, Nat.mul_comm, Nat.mul_left_comm]
        _ ≤ Q0 * 2 ^ 33 := Nat.mul_le_mul_right _ m4
        _ < Q0 * 2 ^ 49 := by omega
        _ ≤ 2 ^ (B + k) := m3

theorem filter_last {α : Type} (f : α → Bool) : ∀ (l : List α), l.filter f ≠ [] → ∃ (j : Nat) (y : α), l[j]? = some y ∧ f y = true ∧ (l.filter f)[(l.filter f).length - 1]? = some y ∧ ∀ i z, j < i → l[i]? = some z → f z = false
  | [], h => absurd rfl h
  | x :: l, h => by
    by_cases hl : l.filter f = []
    · have hx : f x = true := by
        rw [List.filter_cons] at h
        split at h
        · assumption
        · exact absurd hl h
      refine ⟨0, x, rfl, hx, ?_, fun i z hi hz => ?_⟩
      · rw [List.filter_cons, if_pos hx, hl]; rfl
      · obtain ⟨k, rfl⟩ : ∃ k, i = k + 1 := ⟨i - 1, by omega⟩
        have hm : z ∈ l := List.mem_of_getElem? (by simpa using hz)
        have := List.filter_eq_nil_iff.mp hl z hm
        simpa using this
    · obtain ⟨j, y, h1, h2, h3, h4⟩ := filter_last f l hl
      refine ⟨j + 1, y, by simpa using h1, h2, ?_, fun i z hi hz => ?_⟩
      · rw [List.filter_cons]
        have hpos : 0 < (l.filter f).length := List.length_pos_iff.mpr hl
        split
        · rw [List.length_cons, Nat.add_sub_cancel]
          obtain ⟨k, hk⟩ : ∃ k, (l.filter f).length = k + 1 := ⟨(l.filter f).length - 1, by omega⟩
          rw [hk] at h3 ⊢
          simpa using h3
        · exact h3
      · obtain ⟨k, rfl⟩ : ∃ k, i = k + 1 := ⟨i - 1, by omega⟩
        exact h4 k z (by omega) (by simpa using hz)

theorem found_ok {r : Str} {prec Q0 B : Nat} {P0 a : Int} {x : PyData} (h : FRx r prec P0 Q0 x) (hp : 70 ≤ prec) (hp2 : prec ≤ 99) (hP : P0.natAbs ≤ 2 ^ 20) (hQ : 0 < Q0) (hQ2 : Q0 ≤ 65536) (hx : x = nrm a (-(B : Int))) (hred : B = 0 ∨ a % 2 = 1) :
    B ≤ 120 ∧ nb a.natAbs ≤ 120 ∧ ∃ (p : Int) (Q g : Nat), 0 < g ∧ 0 < Q ∧ P0 = p * g ∧ Q0 = Q * g ∧ P0.natAbs.gcd Q0 = g ∧
      ((rowsOf a (2 ^ B) 0 1 1 0).filter fun x => decide (x.2 ≤ 65536)) ≠ [] ∧
      ((rowsOf a (2 ^ B) 0 1 1 0).filter fun x => decide (x.2 ≤ 65536))[((rowsOf a (2 ^ B) 0 1 1 0).filter fun x => decide (x.2 ≤ 65536)).length - 1]? = some (p, (Q : Int)) := by
  obtain ⟨b1, b2, hclose⟩ := fr_close h hp hp2 hP hQ hQ2 hx hred
  refine ⟨b1, b2, ?_⟩
  have hb0 : 0 < 2 ^ B := Nat.two_pow_pos B
  have e2B : ((2 ^ B : Nat) : Int) = 2 ^ B := by push_cast; rfl
  have hne : ((rowsOf a (2 ^ B) 0 1 1 0).filter fun x => decide (x.2 ≤ 65536)) ≠ [] := by
    have e0 := rowsOf_pos (a := a) (b := 2 ^ B) (p0 := 0) (q0 := 1) (p1 := 1) (q1 := 0) (Nat.ne_of_gt hb0)
    have e1 : a / ((2 ^ B : Nat) : Int) * 0 + 1 = 1 := by rw [Int.mul_zero]; rfl
    rw [e1] at e0
    obtain ⟨f, hf, hf1⟩ : ∃ f : Int × Int → Bool, f = (fun x => decide (x.2 ≤ 65536)) ∧ ∀ y : Int, f (y, 1) = true := ⟨_, rfl, fun y => decide_eq_true (show (1 : Int) ≤ 65536 by omega)⟩
    rw [← hf, e0, List.filter_cons_of_pos (hf1 _)]
    exact List.cons_ne_nil _ _
  obtain ⟨j, ⟨p, q⟩, hj, hf, hlast, hafter⟩ := filter_last (fun x : Int × Int => decide (x.2 ≤ 65536)) _ hne
  obtain ⟨Q, d, s, rfl, hQp, hQb, hs, hD, hd, hdz, ⟨u, v, huv⟩, _, hnext⟩ := row_facts hb0 hj
  have hQ65 : Q ≤ 65536 := by simp at hf; omega
  have hd65 : d * 65537 ≤ 2 ^ B := by
    rcases Nat.eq_zero_or_pos d with q | q
    · have : d * 65537 = 0 := by omega
      omega
    · have hjl : j < (rowsOf a (2 ^ B) 0 1 1 0).length := (List.getElem?_eq_some_iff.mp hj).1
      obtain ⟨p', Q', k1, k2, k3, _⟩ := hnext (by omega)
      have := hafter (j + 1) _ (by omega) k1
      simp at this
      have : d * 65537 ≤ d * Q' := Nat.mul_le_mul_left _ (by omega)
      omega
  -- the cross product
  have hcross : p * Q0 = P0 * Q := by
    rcases Int.lt_trichotomy (p * Q0 - P0 * Q) 0 with q | q | q
    all_goals first
      | omega
      | skip
    all_goals
      exfalso
      generalize he : a * (Q0 : Int) - P0 * 2 ^ B = e at *
      have h1 : (p * Q0 - P0 * Q) * ((2 ^ B : Nat) : Int) = e * Q - s * d * Q0 := by
        rw [← hD, ← he, ← e2B]
        simp only [Int.sub_mul, Int.mul_sub, Int.mul_assoc, Int.mul_comm, Int.mul_left_comm]; omega
      have h2 : 2 ^ B ≤ ((p * Q0 - P0 * Q) * ((2 ^ B : Nat) : Int)).natAbs := by
        rw [Int.natAbs_mul, Int.natAbs_natCast]
        exact Nat.le_mul_of_pos_left _ (by omega)
      have h3 : (e * Q - s * d * Q0 : Int).natAbs ≤ e.natAbs * 65536 + d * 65536 := by
        have k1 : (e * (Q : Int)).natAbs ≤ e.natAbs * 65536 := by
          rw [Int.natAbs_mul, Int.natAbs_natCast]; exact Nat.mul_le_mul_left _ hQ65
        have k2 : (s * (d : Int) * (Q0 : Int)).natAbs ≤ d * 65536 := by
          rw [Int.natAbs_mul, Int.natAbs_mul, Int.natAbs_natCast, Int.natAbs_natCast, show s.natAbs = 1 by rw [hs]; split <;> rfl, Nat.one_mul]
          exact Nat.mul_le_mul_left _ hQ2
        omega
      rw [h1] at h2
      generalize 2 ^ B = bb at *
      omega
  -- Q divides Q0
  obtain ⟨g, hg⟩ : ∃ g : Int, (Q0 : Int) = Q * g := by
    rcases huv with h1 | h1
    · refine ⟨P0 * u - v * Q0, ?_⟩
      calc (Q0 : Int) = (p * u - v * Q) * Q0 := by rw [h1, Int.one_mul]
        _ = (p * Q0) * u - Q * (v * Q0) := by rw [Int.sub_mul]; simp only [Int.mul_assoc, Int.mul_comm, Int.mul_left_comm]
        _ = (P0 * Q) * u - Q * (v * Q0) := by rw [hcross]
        _ = Q * (P0 * u - v * Q0) := by rw [Int.mul_sub]; simp only [Int.mul_assoc, Int.mul_comm, Int.mul_left_comm]
    · refine ⟨-(P0 * u - v * Q0), ?_⟩
      calc (Q0 : Int) = -((p * u - v * Q) * Q0) := by rw [h1]; omega
        _ = -((p * Q0) * u - Q * (v * Q0)) := by rw [Int.sub_mul]; simp only [Int.mul_assoc, Int.mul_comm, Int.mul_left_comm]
        _ = -((P0 * Q) * u - Q * (v * Q0)) := by rw [hcross]
        _ = Q * -(P0 * u - v * Q0) := by rw [Int.mul_neg, Int.mul_sub]; simp only [Int.mul_assoc, Int.mul_comm, Int.mul_left_comm]
  have hgp : 0 < g := by
    rcases Int.lt_or_le 0 g with q | q
    · exact q
    · exfalso
      have := Int.mul_nonpos_of_nonneg_of_nonpos (show (0 : Int) ≤ Q by omega) q
      omega
  obtain ⟨G, rfl⟩ := Int.eq_ofNat_of_zero_le (show 0 ≤ g by omega)
  have hQ0 : Q0 = Q * G := by exact_mod_cast hg
  have hP0 : P0 = p * G := by
    have : P0 * Q = p * G * Q := by rw [← hcross, hg]; simp only [Int.mul_assoc, Int.mul_comm, Int.mul_left_comm]
    exact Int.eq_of_mul_eq_mul_right (by omega) this
  have hcop : p.natAbs.gcd Q = 1 := by
    have d1 : ((p.natAbs.gcd Q : Nat) : Int) ∣ p := Int.dvd_natAbs.mp (Int.natCast_dvd_natCast.mpr (Nat.gcd_dvd_left _ _))
    have d2 : ((p.natAbs.gcd Q : Nat) : Int) ∣ (Q : Int) := Int.natCast_dvd_natCast.mpr (Nat.gcd_dvd_right _ _)
    have d3 : ((p.natAbs.gcd Q : Nat) : Int) ∣ p * u - v * Q := Int.dvd_sub (Int.dvd_mul_of_dvd_left d1) (Int.dvd_mul_of_dvd_right d2)
    have d4 : ((p.natAbs.gcd Q : Nat) : Int) ∣ 1 := by
      rcases huv with h1 | h1
      · rwa [h1] at d3
      · rw [h1] at d3; exact (Int.dvd_neg).mp d3
    have := Int.natAbs_dvd_natAbs.mpr d4
    simpa using this
  refine ⟨p, Q, G, by omega, hQp, hP0, hQ0, ?_, hne, hlast⟩
  rw [hP0, hQ0, Int.natAbs_mul, Int.natAbs_natCast, Nat.gcd_mul_right, hcop, Nat.one_mul]
end Mine

-- ---------- Fn11 ----------
set_option maxRecDepth 100000
set_option autoImplicit false
set_option linter.all false
set_option Elab.async false
set_option maxHeartbeats 4000000
namespace Mine
open PySem PySem.W PyProof.Rows PySem.Calls PySem.Spec

local macro_rules | `(tactic| walk_at "vc") => `(tactic| simp only [init, List.map_cons, List.map_nil, List.cons_append, List.nil_append, List.append_nil, List.length_cons, List.length_nil, List.replicate, List.replicate_zero, List.replicate_succ, List.reverse_cons, List.reverse_nil,
  Nat.reduceAdd, Nat.reduceSub, v_add, v_sub, v_mul, v_div, v_mod, v_shl, v_shr, v_and, v_xor, v_pow, v_iadd, v_isub, v_imul, v_ishl, v_ishr, v_ixor, v_tint, v_tbool, v_tnone, v_usub, v_unot, v_lt, v_le, v_gt, v_ge, v_eqi, v_nei, v_eqs, v_neb, v_eq4, v_in4, v_eq2,
  v_bits, v_get0, v_getS, v_set0, v_setS, v_all0, v_allS, v_sets0, v_setsS, v_nsets0, v_nsetsS, v_unt, v_unl, v_itl, v_it0, v_it1, v_it2, v_it3, v_int, v_abs, v_len, v_divmod, v_isint, v_shift,
  Bool.not_eq_true', Bool.not_eq_false', bne_iff_ne, ne_eq, bne_eq_false_iff_eq, Bool.not_true, Bool.not_false, decide_eq_true_eq, decide_eq_false_iff_not, true_and, and_true, forall_const, reduceCtorEq, false_implies, true_implies])
-- fsd: the plain goals of FS.def
local macro_rules | `(tactic| walk_at "fsd") => `(tactic| (
  (case ho => exact rfl)
  (case hcd => exact rfl)
  (case e1 => exact rfl)
  (case e2 => decide)
  (case e3 => decide)
  (case e10 => decide)
  (case e4 => decide)
  (case e5 => decide)
  (case e6 => exact rfl)
  (case e7 => exact rfl)
  (case e8 => exact rfl)
  (case e9 => exact rfl)
  skip))

section
variable {w : World} {p : Program} {loose : List Str} {mg mb : Str → Option Value} {n : Nat} {cs : Scope}
theorem FRx.same {r : Str} {prec : Nat} {P0 p : Int} {Q0 Q g : Nat} {x y : PyData} (hp : 1 ≤ prec) (hg : 0 < g) (hQ : 0 < Q) (eP : P0 = p * g) (eQ : Q0 = Q * g) (h : FRx r prec P0 Q0 x) (h' : FRx r prec p Q y) : y = x := by
  subst eP eQ
  have hz : p * (g : Int) = 0 ↔ p = 0 := by rw [Int.mul_eq_zero]; omega
  have hn : p * (g : Int) < 0 ↔ p < 0 := by
    constructor
    · intro h
      rcases Int.lt_or_le p 0 with c | c
      · exact c
      · have := Int.mul_nonneg c (show (0 : Int) ≤ g by omega); omega
    · intro h; exact Int.mul_neg_of_neg_of_pos h (by omega)
  rcases h with ⟨a, rfl⟩ | ⟨a, b⟩
  · rcases h' with ⟨a', rfl⟩ | ⟨a', b'⟩
    · rfl
    · exact absurd (hz.mp a) a'
  · rcases h' with ⟨a', rfl⟩ | ⟨a', b'⟩
    · exact absurd (hz.mpr a') a
    · simp only [hn] at b
      refine IsFR.unique hp hQ (Nat.mul_pos hQ hg) ?_ b' b
      rw [Int.natAbs_mul, Int.natAbs_natCast]
      simp only [Nat.mul_assoc, Nat.mul_comm, Nat.mul_left_comm]
def C_found (pvs : List PV) (P : PV → Prop) : Prop := ∃ (P0 : Int) (Q0 prec : Nat) (r : Str), pvs = [.d (.int P0), .d (.int Q0), .d (.int prec), .d (.str r)] ∧ Mode r ∧ 0 < Q0 ∧ Q0 ≤ 65536 ∧ P0.natAbs ≤ 2 ^ 20 ∧ 70 ≤ prec ∧ prec ≤ 99 ∧ P (.d (.bool true))
theorem fs_ulaw_found_right_4 : FS (DD w p loose mg mb) (.ref 197) 9 C_found := by
  refine' FS.def (ps := [Str.ofString "above", Str.ofString "below", Str.ofString "prec", Str.ofString "rnd"]) (k := 4) (dfl := []) ?ho ?hcd ?hb ?e1 ?e2 ?e3 ?e10 ?e4 ?e5 ?e6 ?e7 ?e8 ?hS ?e9 ?hl ?hC
  walk_at "fsd"
  case hb => intro s vs G hl; match vs, hl with
    | [_, _, _, _], _ => exact ⟨[], .of_eq rfl, trivial⟩
  case hS => exact (SS.cons (S1.assign (i := 4) (SE.callN (SE.globF 9 g_from_rational rfl) rfl fs_from_rational_4 (by decide) (SA.cons (SE.varL 0 rfl) (SA.cons (SE.varL 1 rfl) (SA.cons (SE.varL 2 rfl) (SA.cons (SE.varL 3 rfl) SA.nil (fun _ => rfl)) (fun _ => rfl)) (fun _ => rfl)) (fun _ => rfl)) (.inr k_from_rational) (fun _ => rfl) (NoStar.cons (fun _ => rfl) (NoStar.cons (fun _ => rfl) (NoStar.cons (fun _ => rfl) NoStar.nil)))) rfl (.inl rfl) (fun _ => rfl))
 (SS.cons (S1.swap (names := [Str.ofString "a", Str.ofString "b"]) (SA.cons (SE.callN (SE.globB 10 g_abs b_abs (by decide) rfl) rfl FS.abs (Nat.zero_le _) (SA.cons (SE.varL 0 rfl) SA.nil (fun _ => rfl)) (.inl (fun _ q => nomatch q)) (fun _ => rfl) NoStar.nil) (SA.cons (SE.varL 1 rfl) SA.nil (fun _ => rfl)) (fun _ => rfl)) (NAt.cons (i := 6) rfl (.inl rfl) (NAt.cons (i := 5) rfl (.inl rfl) NAt.nil)) rfl (by decide) (fun _ => rfl) (fun _ _ _ _ _ => rfl))
 (SS.cons (S1.cut (S1.while (ST.cmp (SE.varL 6 rfl) SE.int rfl) (SS.cons (S1.swap (names := [Str.ofString "a", Str.ofString "b"]) (SA.cons (SE.varL 6 rfl) (SA.cons (SE.bin (SE.varL 5 rfl) (SE.varL 6 rfl)) SA.nil (fun _ => rfl)) (fun _ => rfl)) (NAt.cons (i := 6) rfl (.inl rfl) (NAt.cons (i := 5) rfl (.inl rfl) NAt.nil)) rfl (by decide) (fun _ => rfl) (fun _ _ _ _ _ => rfl))
 SS.nil)))
 (SS.cons (S1.assign (i := 7) (SE.callN (SE.globF 11 g_ulaw_row rfl) rfl fs_ulaw_row_2 (by decide) (SA.cons (SE.item (SE.callN (SE.globF 12 g_to_rational rfl) rfl fs_to_rational_1 (by decide) (SA.cons (SE.varL 4 rfl) SA.nil (fun _ => rfl)) (.inr k_to_rational) (fun _ => rfl) NoStar.nil) SE.int (fun _ _ => by with_unfolding_all rfl)) (SA.cons (SE.item (SE.callN (SE.globF 12 g_to_rational rfl) rfl fs_to_rational_1 (by decide) (SA.cons (SE.varL 4 rfl) SA.nil (fun _ => rfl)) (.inr k_to_rational) (fun _ => rfl) NoStar.nil) SE.int (fun _ _ => by with_unfolding_all rfl)) SA.nil (fun _ => rfl)) (fun _ => rfl)) (.inr k_ulaw_row) (fun _ => rfl) (NoStar.cons (fun _ => rfl) NoStar.nil)) rfl (.inl rfl) (fun _ => rfl))
 (SS.cons (S1.assign (i := 8) (SE.itemNeg (SE.listComp (ix := 1) (js := [none, none]) (SE.varL 7 rfl) (TestsOk.one (ST.cmp (SE.item (SE.varL 1 rfl) SE.int (fun _ _ => by with_unfolding_all rfl)) (SE.bin SE.int SE.int) rfl)) (SE.varL 1 rfl) rfl (by decide +kernel) (by decide +kernel) (by decide +kernel) rfl (fun _ _ => rfl)) (SE.un SE.int) (fun _ _ => by with_unfolding_all rfl)) rfl (.inl rfl) (fun _ => rfl))
 (SS.cons (S1.ret (SE.and2 (SE.cmp (SE.varL 8 rfl) (SE.tuple (SA.cons (SE.bin (SE.varL 0 rfl) (SE.varL 5 rfl)) (SA.cons (SE.bin (SE.varL 1 rfl) (SE.varL 5 rfl)) SA.nil (fun _ => rfl)) (fun _ => rfl)) (by decide)) rfl) (SE.cmp (SE.callN (SE.globF 9 g_from_rational rfl) rfl fs_from_rational_4 (by decide) (SA.cons (SE.item (SE.varL 8 rfl) SE.int (fun _ _ => by with_unfolding_all rfl)) (SA.cons (SE.item (SE.varL 8 rfl) SE.int (fun _ _ => by with_unfolding_all rfl)) (SA.cons (SE.varL 2 rfl) (SA.cons (SE.varL 3 rfl) SA.nil (fun _ => rfl)) (fun _ => rfl)) (fun _ => rfl)) (fun _ => rfl)) (.inr k_from_rational) (fun _ => rfl) (NoStar.cons (fun _ => rfl) (NoStar.cons (fun _ => rfl) (NoStar.cons (fun _ => rfl) NoStar.nil)))) (SE.varL 4 rfl) rfl)))
 SS.nil))))))
  case hl => rintro pvs P ⟨_, _, _, _, rfl, _⟩; rfl
  case hC =>
    rintro pvs P ⟨P0, Q0, prec, r, rfl, hr, hQ0, hQ2, hP0, hp1, hp2, h⟩
    have bP : nb P0.natAbs ≤ 21 := nb_le (by omega)
    have bQ : nb Q0 ≤ 17 := nb_le (by omega)
    walk_at "vc"
    refine ⟨P0, Q0, prec, r, rfl, hr, hQ0, by omega, by omega, by omega, by omega, fun x hx => ?_⟩
    obtain ⟨R, u, v, hu, hv, hR, hxR, _⟩ := fr_nrm hx hQ0
    refine ⟨fun ρ' => ρ' = [some (.d (.int P0)), some (.d (.int Q0)), some (.d (.int prec)), some (.d (.str r)), some (.d x), some (.d (.int (P0.natAbs.gcd Q0 : Nat))), some (.d (.int 0)), none, none, none, none, none, none], ?_, ?_⟩
    · refine ⟨fun k ρ' => ∃ A b : Nat, b = k ∧ nb b ≤ 100 ∧ A.gcd b = P0.natAbs.gcd Q0 ∧ ρ' = [some (.d (.int P0)), some (.d (.int Q0)), some (.d (.int prec)), some (.d (.str r)), some (.d x), some (.d (.int A)), some (.d (.int b)), none, none, none, none, none, none], ⟨Q0, P0.natAbs, Q0, rfl, by omega, rfl, ?_⟩, ?_⟩
      · rw [show (if P0 < 0 then -P0 else P0) = (P0.natAbs : Int) by split <;> omega]
      · rintro k ρ' ⟨A, b, rfl, hb, hg, rfl⟩
        walk_at "vc"
        refine ⟨fun hpos => ⟨by omega, ?_⟩, fun hz => ?_⟩
        · rw [fmod_nat]
          have hlt := Nat.mod_lt A (show 0 < b by omega)
          refine ⟨A % b, hlt, b, A % b, rfl, Nat.le_trans (nb_mono (Nat.le_of_lt hlt)) hb, ?_, rfl⟩
          rw [← hg, Nat.gcd_comm A b, Nat.gcd_rec b A, Nat.gcd_comm]
        · obtain rfl : b = 0 := by omega
          rw [Nat.gcd_zero_right] at hg
          rw [← hg]; rfl
    rintro ρ' rfl
    walk_at "vc"
    refine ⟨R, _, by rw [hxR], by omega, by omega, by omega, fun a B e hred => ?_⟩
    have hxa := hxR.trans e
    obtain ⟨hB, ba, p, Q, g, hg, hQ, eP, eQ, hgcd, hne, hlast⟩ := found_ok hx hp1 hp2 hP0 hQ0 hQ2 hxa hred
    walk_at "vc"
    refine ⟨R, _, by rw [hxR], by omega, by omega, by omega, fun a' B' e' hred' => ?_⟩
    obtain ⟨rfl, rfl⟩ := nrm_red_inj (hxa.symm.trans (hxR.trans e')) (hred.imp id fun q => by omega) (hred'.imp id fun q => by omega)
    walk_at "vc"
    have e2B : (2 : Int) ^ B = ((2 ^ B : Nat) : Int) := by push_cast; rfl
    have b2B : nb (2 ^ B) ≤ 121 := nb_le (Nat.pow_lt_pow_right (by decide) (by omega))
    refine ⟨a, 2 ^ B, by rw [e2B], by omega, by omega, ?_⟩
    have hll : (rowsOf a (2 ^ B) 0 1 1 0).length ≤ 1000 := by
      have := rowsOf_len' (a := a) (b := 2 ^ B) (p0 := 0) (q0 := 1) (p1 := 1) (q1 := 0)
      omega
    generalize rowsOf a (2 ^ B) 0 1 1 0 = l at *
    have hlen : (tups l).length = l.length := by unfold tups; rw [List.length_map]
    obtain ⟨f, hf⟩ : ∃ f : Int × Int → Bool, f = (fun x => decide (x.2 ≤ 65536)) := ⟨_, rfl⟩
    rw [← hf] at hne hlast
    unfold compVC itemsVC
    refine ⟨by rw [hlen]; omega, fun i acc => acc = tups ((l.take i).filter f), rfl, fun i acc it hit hacc => ?_, fun acc hacc => ?_⟩
    · obtain ⟨⟨y1, y2⟩, hy, rfl⟩ : ∃ y, l[i]? = some y ∧ it = tup2 y := by
        unfold tups at hit
        rw [List.getElem?_map, Option.map_eq_some_iff] at hit
        obtain ⟨y, h1, h2⟩ := hit
        exact ⟨y, h1, h2.symm⟩
      rw [show ∀ ρ : Env1, itemEnv [Option.none, Option.none] 1 ρ (tup2 (y1, y2)) = [Option.none, some (.d (.tuple [.int y1, .int y2]))] from fun _ => rfl]
      have htk : (l.take (i + 1)).filter f = (l.take i).filter f ++ if f (y1, y2) then [(y1, y2)] else [] := take_succ_filter f l i _ hy
      have hfy : f (y1, y2) = decide (y2 ≤ 65536) := by rw [hf]
      walk_at "vc"
      rw [show (2 : Int) ^ Int.toNat 16 = 65536 by decide]
      refine ⟨by decide, by decide, by decide, fun q => ⟨_, rfl, rfl, ?_⟩, fun q => ?_⟩
      · rw [htk, hfy, decide_eq_true q, if_pos rfl, hacc]; unfold tups; rw [List.map_append]; rfl
      · rw [htk, hfy, decide_eq_false q, hacc]; simp
    · rw [hlen, List.take_length] at hacc
      have hFl : 0 < (l.filter f).length := List.length_pos_iff.mpr hne
      have hacl : acc.length = (l.filter f).length := by rw [hacc]; unfold tups; rw [List.length_map]
      have hget : acc[(-1 + (acc.length : Int)).toNat]? = some (.tuple [.int p, .int Q]) := by
        rw [show (-1 + (acc.length : Int)).toNat = (l.filter f).length - 1 by omega, hacc]
        unfold tups
        rw [List.getElem?_map, hlast]; rfl
      unfold itemNegVC
      refine ⟨by decide, by decide, by omega, ?_⟩
      simp only [hget]
      have hg0 : ¬ ((g : Nat) : Int) = 0 := by omega
      have d1 : P0.fdiv (g : Int) = p := by rw [eP, Int.fdiv_eq_ediv_of_nonneg _ (by omega), Int.mul_ediv_cancel _ hg0]
      have d2 : (Q0 : Int).fdiv (g : Int) = Q := by rw [fdiv_nat, eQ, Nat.mul_div_cancel _ hg]
      have bg : nb g ≤ 17 := Nat.le_trans (nb_mono (show g ≤ Q0 by rw [eQ]; exact Nat.le_mul_of_pos_left _ hQ)) bQ
      rw [hgcd]
      walk_at "vc"
      simp only [d1, d2]
      have hpp : nb p.natAbs ≤ 100 := by
        refine Nat.le_trans (nb_mono ?_) (Nat.le_trans bP (by decide))
        rw [eP, Int.natAbs_mul, Int.natAbs_natCast]; exact Nat.le_mul_of_pos_right _ hg
      have hQQ : nb Q ≤ 100 := by
        refine Nat.le_trans (nb_mono ?_) (Nat.le_trans bQ (by decide))
        rw [eQ]; exact Nat.le_mul_of_pos_right _ hg
      refine ⟨hg0, noPy (by omega), hg0, noPy (by omega), fun _ => ⟨p, Q, prec, r, rfl, hr, hQ, by omega, by omega, by omega, by omega, fun y hy => ?_⟩, fun q => absurd ⟨trivial, trivial⟩ q⟩
      obtain rfl := FRx.same (by omega) hg hQ eP eQ hx hy
      obtain ⟨c1, c2, c3, c4, hc, _⟩ := nrm_four a (-(B : Int))
      rw [hxa, hc]
      walk_at "vc"
      simpa using h
end
end Mine

-- ---------- Fn12 ----------
set_option maxRecDepth 100000
set_option autoImplicit false
set_option linter.all false
set_option Elab.async false
set_option maxHeartbeats 4000000
namespace Mine
open PySem PySem.W PyProof.Rows PySem.Calls PySem.Spec

local macro_rules | `(tactic| walk_at "vc") => `(tactic| simp only [init, List.map_cons, List.map_nil, List.cons_append, List.nil_append, List.append_nil, List.length_cons, List.length_nil, List.replicate, List.replicate_zero, List.replicate_succ, List.reverse_cons, List.reverse_nil,
  Nat.reduceAdd, Nat.reduceSub, v_add, v_sub, v_mul, v_div, v_mod, v_shl, v_shr, v_and, v_xor, v_pow, v_iadd, v_isub, v_imul, v_ishl, v_ishr, v_ixor, v_tint, v_tbool, v_tnone, v_usub, v_unot, v_lt, v_le, v_gt, v_ge, v_eqi, v_nei, v_eqs, v_neb, v_eq4, v_in4, v_eq2,
  v_bits, v_get0, v_getS, v_set0, v_setS, v_all0, v_allS, v_sets0, v_setsS, v_nsets0, v_nsetsS, v_unt, v_unl, v_itl, v_it0, v_it1, v_it2, v_it3, v_int, v_abs, v_len, v_divmod, v_isint, v_shift,
  Bool.not_eq_true', Bool.not_eq_false', bne_iff_ne, ne_eq, bne_eq_false_iff_eq, Bool.not_true, Bool.not_false, decide_eq_true_eq, decide_eq_false_iff_not, true_and, and_true, forall_const, reduceCtorEq, false_implies, true_implies])
-- fsd: the plain goals of FS.def
local macro_rules | `(tactic| walk_at "fsd") => `(tactic| (
  (case ho => exact rfl)
  (case hcd => exact rfl)
  (case e1 => exact rfl)
  (case e2 => decide)
  (case e3 => decide)
  (case e10 => decide)
  (case e4 => decide)
  (case e5 => decide)
  (case e6 => exact rfl)
  (case e7 => exact rfl)
  (case e8 => exact rfl)
  (case e9 => exact rfl)
  skip))

theorem mk_rat {sg : Int} {M : Nat} {e : Int} (hs : sg = 0 ∨ sg = 1) (hM : M % 2 = 1) (hb : nb M ≤ 24) (h1 : -30 ≤ e) (h2 : e ≤ 10) :
    ∃ (a : Int) (B : Nat), mk sg M e = nrm a (-(B : Int)) ∧ (B = 0 ∨ a % 2 ≠ 0) ∧ B ≤ 60 ∧ nb a.natAbs ≤ 60 ∧ ∃ m z : Nat, a.natAbs = m * 2 ^ z ∧ nb m ≤ 40 ∧ z ≤ 100 := by
  rw [← mk_odd hM, ← nrm_sgn hs]
  rcases Int.lt_or_le e 0 with q | q
  · obtain ⟨B, hB⟩ := Int.eq_ofNat_of_zero_le (show 0 ≤ -e by omega)
    refine ⟨sgn sg M, B, by rw [← hB, Int.neg_neg], .inr (by have := sgn_odd (sg := sg) hM; omega), by omega, by rw [sgn_natAbs]; omega, M, 0, by rw [sgn_natAbs]; simp, by omega, by omega⟩
  · obtain ⟨k, rfl⟩ := Int.eq_ofNat_of_zero_le q
    refine ⟨sgn sg M * 2 ^ k, 0, ?_, .inl rfl, by omega, ?_, M, k, ?_, by omega, by omega⟩
    · rw [nrm_scale]; congr 1; omega
    · rw [natAbs_mul_pow, sgn_natAbs, nb_shl k (by omega)]; omega
    · rw [natAbs_mul_pow, sgn_natAbs]
end Mine

-- ---------- BaseJ ----------
set_option maxRecDepth 100000
set_option autoImplicit false
set_option linter.all false
namespace Mine
open PySem PySem.W PyProof.Rows PySem.Calls PySem.Spec

theorem RDL_ints {h : Heap} {vs : List Value} {xs : List Int} (x : IntsAre vs xs) : RDL h (xs.map .int) vs := by
  induction x with
  | nil => exact trivial
  | cons _ _ _ ih => exact ⟨⟨_, rfl⟩, ih⟩

theorem law_end {w : World} {p : Program} {loose : List Str} {mg mb : Str → Option Value} {s₁ : Shared} {h₁ : Heap} {fa : Addr} {cd : Value} {name : Str} {scope : Scope} {body : List Stmt} {W : TrS} {l : Addr} {vs : List Value} {xs : List Int} {tk : Nat}
    {C : ClaimW} {cl : Str → Option Addr} {mean : ExcName → Option Value} {args : List WData} {E : Value → Shared → Prop} {n k : Nat}
    (hS : SS (DD w p loose mg mb) n scope body W) (hn : n ≤ 20)
    (hW : ∀ P : PV → Prop, P (.d (.bool true)) → W (some (.d (.list (xs.map .int))) :: List.replicate k none) (fun _ => P (.d .none)) P)
    (hnm : scope.names[0]? = some (Str.ofString "script", .local)) (hnd : (scope.names.map (·.1)).Nodup) (hdbg : scope.names.all (fun q => !(q.1 == ("__debug__" : Str)) && !(q.1 == ("__classdict__" : Str))) = true)
    (hcell : scope.names.all (fun q => decide (q.2 ≠ .cell)) = true) (hk : scope.kind = .function)
    (KX : (hd.heap_39 w.params).In s₁.heap) (T : TopRead p loose mg mb s₁.heap)
    (F : Fr s₁.heap s₁.heap.objs.size h₁ (fun x => List.lookup x [(Str.ofString "script", Value.ref l)].reverse))
    (hL : s₁.heap.IsList l vs.toArray) (hI : IntsAre vs xs) (hcn : ∀ cls, C.raises args cls = false) (hp : C.post args (.bool true) args = true) (hg : s₁.gens = #[]) :
    wpAny (model PySem.Challenge.rw_aj5003_01.row.prog w) (callerA.deeper (envOf name scope s₁.heap.objs.size fa cd)) (execs body (envOf name scope s₁.heap.objs.size fa cd))
      (fun f s' => GoodW C cl mean args s₁ (Except.ok (Flow.ret (match f with | Flow.ret v => v | _ => Value.none))) s') E
      { heap := h₁, gens := s₁.gens, drawn := s₁.drawn, toks := tk, os := s₁.os } := by
  have G : GF (DD w p loose mg mb) s₁.heap := ⟨KX, T⟩
  have FI1 : FI (DD w p loose mg mb) scope [] s₁.heap s₁.heap.objs.size (fun x => List.lookup x [(Str.ofString "script", Value.ref l)].reverse) h₁ (some (.d (.list (xs.map .int))) :: List.replicate k none) := by
    refine ⟨G, F, hk, hnd, hdbg, fun _ _ q => by simp at q, fun _ _ _ q => by simp at q, fun x hx => ?_, fun _ _ q => by simp at q, fun i x kd pv hi hp => ?_⟩
    · have := List.all_eq_true.mp hcell _ (lookup_mem hx)
      simp at this
    · rcases i with _ | i
      · rw [hnm] at hi
        cases hi
        simp only [List.getElem?_cons_zero, Option.some.injEq] at hp
        subst hp
        refine ⟨.ref l, ⟨l, vs, rfl, ?_, RDL_ints hI⟩, .inl ⟨rfl, by simp⟩⟩
        obtain ⟨o, h1, h2⟩ := hL
        exact ⟨o, F.keep _ _ h1, h2⟩
      · rw [List.getElem?_cons_succ] at hp
        have := List.eq_of_mem_replicate (List.mem_of_getElem? hp)
        cases this
  have hA : Room callerA (n + 1) := ⟨by show 1 + claimMargin + (n + 1) < recursionLimit; unfold claimMargin recursionLimit; omega, by show 4 + 8 * (n + 1) + 80 < cLine; unfold cLine; omega, rfl⟩
  refine wpAny_mono (hS (callerA.deeper (envOf name scope s₁.heap.objs.size fa cd)) s₁.heap s₁.heap.objs.size (some fa, some s₁.heap.objs.size) cd (name ++ ".<locals>.") [] _ { heap := h₁, gens := s₁.gens, drawn := s₁.drawn, toks := tk, os := s₁.os } _ _
    (fun pv => pv = .d (.bool true)) (fun f s' => GoodW C cl mean args s₁ (Except.ok (Flow.ret (match f with | Flow.ret v => v | _ => Value.none))) s') (hA.deeper _) FI1 (hW _ rfl) (fun ρ' m' s' hq F' t' => ?_) (fun pv v s' hq hr t' => ?_)) (fun _ _ q => q) fun _ _ q => q.elim
  · cases hq
  · subst hq
    obtain rfl : v = _ := hr
    exact ⟨.inl ⟨_, _, _, rfl, hcn, .bool true, hp, unshared_nil⟩, t'.keep₀ FI1, t'.os, t'.gens.trans hg⟩
end Mine

-- ---------- J ----------
set_option maxRecDepth 100000
set_option autoImplicit false
set_option linter.all false
set_option Elab.async false
set_option maxHeartbeats 4000000
namespace Mine
open PySem PySem.W PyProof.Rows PySem.Calls PySem.Spec

local macro_rules | `(tactic| walk_at "vc") => `(tactic| simp only [init, List.map_cons, List.map_nil, List.cons_append, List.nil_append, List.append_nil, List.length_cons, List.length_nil, List.replicate, List.replicate_zero, List.replicate_succ, List.reverse_cons, List.reverse_nil,
  Nat.reduceAdd, Nat.reduceSub, v_add, v_sub, v_mul, v_div, v_mod, v_shl, v_shr, v_and, v_xor, v_pow, v_iadd, v_isub, v_imul, v_ishl, v_ishr, v_ixor, v_tint, v_tbool, v_tnone, v_usub, v_unot, v_lt, v_le, v_gt, v_ge, v_eqi, v_nei, v_eqs, v_neb, v_eq4, v_in4, v_eq2,
  v_bits, v_get0, v_getS, v_set0, v_setS, v_all0, v_allS, v_sets0, v_setsS, v_nsets0, v_nsetsS, v_unt, v_unl, v_itl, v_it0, v_it1, v_it2, v_it3, v_int, v_abs, v_len, v_divmod, v_isint, v_shift,
  Bool.not_eq_true', Bool.not_eq_false', bne_iff_ne, ne_eq, bne_eq_false_iff_eq, Bool.not_true, Bool.not_false, decide_eq_true_eq, decide_eq_false_iff_not, true_and, and_true, forall_const, reduceCtorEq, false_implies, true_implies])
-- fsd: the plain goals of FS.def
local macro_rules | `(tactic| walk_at "fsd") => `(tactic| (
  (case ho => exact rfl)
  (case hcd => exact rfl)
  (case e1 => exact rfl)
  (case e2 => decide)
  (case e3 => decide)
  (case e10 => decide)
  (case e4 => decide)
  (case e5 => decide)
  (case e6 => exact rfl)
  (case e7 => exact rfl)
  (case e8 => exact rfl)
  (case e9 => exact rfl)
  skip))

theorem law_bits {xs : List Int} (h : (PyData.list (xs.map .int)).layable0 = true) : ∀ x ∈ xs, nb x.natAbs ≤ 1048576 := by
  intro x hx
  have := PyData.weight_item_of_list h (x := .int x) (List.mem_map_of_mem hx)
  simp only [PyData.weight] at this
  by_cases hx0 : x = 0
  · subst hx0; decide
  · rw [if_neg (by simpa using hx0)] at this
    rw [nb_pos (by omega)]
    have e : (2 : Nat) ^ 20 = 1048576 := by decide
    omega
set_option maxHeartbeats 8000000 in
theorem law_holds : PySem.Challenge.rw_aj5003_01.Holds := by
  refine hd (by
    k_go0
    rename_i w s₀ s₁ mg mb G Y fa o pm doc kV ho hg KX X V GL T B TE TW w1 w2 M w3 w4 hcd xs hs hlay0 hlay hr hl2 w5 w6 l vs as hL ra we r0 hI hrw hcond hcond2 K0 hD h₁ F N0
    refine' Mine.law_end (k := 10) (n := 10) (w := w) (l := l) (vs := vs) (xs := xs) ?hS (by decide) ?hW ?hnm ?hnd ?hdbg ?hcell ?hk KX (topRead_of T) F hL hI ?hcn ?hp hg
    case hS => exact (SS.cons (S1.swap (names := [Str.ofString "first", Str.ofString "rich"]) (SA.cons (SE.callN (SE.globF 7 g_ulaw_mixed rfl) rfl fs_ulaw_mixed_2 (by decide) (SA.cons (SE.varL 0 rfl) (SA.cons SE.int SA.nil (fun _ => rfl)) (fun _ => rfl)) (.inr k_ulaw_mixed) (fun _ => rfl) (NoStar.cons (fun _ => rfl) NoStar.nil)) (SA.cons (SE.callN (SE.globF 7 g_ulaw_mixed rfl) rfl fs_ulaw_mixed_2 (by decide) (SA.cons (SE.varL 0 rfl) (SA.cons SE.int SA.nil (fun _ => rfl)) (fun _ => rfl)) (.inr k_ulaw_mixed) (fun _ => rfl) (NoStar.cons (fun _ => rfl) NoStar.nil)) SA.nil (fun _ => rfl)) (fun _ => rfl)) (NAt.cons (i := 2) rfl (.inl rfl) (NAt.cons (i := 1) rfl (.inl rfl) NAt.nil)) rfl (by decide) (fun _ => rfl) (fun _ _ _ _ _ => rfl))
 (SS.cons (S1.assign (i := 3) (SE.callN (SE.globF 7 g_ulaw_mixed rfl) rfl fs_ulaw_mixed_2 (by decide) (SA.cons (SE.varL 0 rfl) (SA.cons SE.int SA.nil (fun _ => rfl)) (fun _ => rfl)) (.inr k_ulaw_mixed) (fun _ => rfl) (NoStar.cons (fun _ => rfl) NoStar.nil)) rfl (.inl rfl) (fun _ => rfl))
 (SS.cons (S1.cut (S1.assign (i := 4) (SE.callN (SE.globF 8 g_ulaw_raw rfl) rfl fs_ulaw_raw_3 (by decide) (SA.cons (SE.varL 3 rfl) (SA.cons SE.int (SA.cons SE.int SA.nil (fun _ => rfl)) (fun _ => rfl)) (fun _ => rfl)) (.inr k_ulaw_raw) (fun _ => rfl) (NoStar.cons (fun _ => rfl) (NoStar.cons (fun _ => rfl) NoStar.nil))) rfl (.inl rfl) (fun _ => rfl)))
 (SS.cons (S1.cut (S1.ite (ST.cmp (SE.item (SE.varL 4 rfl) SE.int (fun _ _ => by with_unfolding_all rfl)) SE.int rfl) (SS.cons (S1.assign (i := 4) (SE.tuple (SA.cons (SE.item (SE.varL 4 rfl) SE.int (fun _ _ => by with_unfolding_all rfl)) (SA.cons (SE.item (SE.varL 4 rfl) SE.int (fun _ _ => by with_unfolding_all rfl)) (SA.cons (SE.bin (SE.item (SE.varL 4 rfl) SE.int (fun _ _ => by with_unfolding_all rfl)) SE.int) (SA.cons (SE.item (SE.varL 4 rfl) SE.int (fun _ _ => by with_unfolding_all rfl)) SA.nil (fun _ => rfl)) (fun _ => rfl)) (fun _ => rfl)) (fun _ => rfl)) (by decide)) rfl (.inl rfl) (fun _ => rfl))
 SS.nil) SS.nil))
 (SS.cons (S1.swap (names := [Str.ofString "above", Str.ofString "below"]) (SA.cons (SE.bin (SE.bin (SE.varL 2 rfl) (SE.bin (SE.bin SE.int SE.int) SE.int)) (SE.bin SE.int SE.int)) (SA.cons (SE.bin SE.int (SE.bin (SE.bin (SE.varL 2 rfl) (SE.bin SE.int SE.int)) (SE.bin SE.int SE.int))) SA.nil (fun _ => rfl)) (fun _ => rfl)) (NAt.cons (i := 6) rfl (.inl rfl) (NAt.cons (i := 5) rfl (.inl rfl) NAt.nil)) rfl (by decide) (fun _ => rfl) (fun _ _ _ _ _ => rfl))
 (SS.cons (S1.ret (SE.and2 (SE.callN (SE.globF 9 g_ulaw_near_right rfl) rfl fs_ulaw_near_right_1 (by decide) (SA.cons (SE.varL 4 rfl) SA.nil (fun _ => rfl)) (.inr k_ulaw_near_right) (fun _ => rfl) NoStar.nil) (SE.callN (SE.globF 10 g_ulaw_found_right rfl) rfl fs_ulaw_found_right_4 (by decide) (SA.cons (SE.varL 5 rfl) (SA.cons (SE.varL 6 rfl) (SA.cons (SE.bin SE.int (SE.bin (SE.bin (SE.varL 1 rfl) SE.int) SE.int)) (SA.cons (SE.item (SE.list (SA.cons SE.str (SA.cons SE.str (SA.cons SE.str (SA.cons SE.str (SA.cons SE.str SA.nil (fun _ => rfl)) (fun _ => rfl)) (fun _ => rfl)) (fun _ => rfl)) (fun _ => rfl)) (by decide)) (SE.bin (SE.varL 1 rfl) SE.int) (fun _ _ => by with_unfolding_all rfl)) SA.nil (fun _ => rfl)) (fun _ => rfl)) (fun _ => rfl)) (fun _ => rfl)) (.inr k_ulaw_found_right) (fun _ => rfl) (NoStar.cons (fun _ => rfl) (NoStar.cons (fun _ => rfl) (NoStar.cons (fun _ => rfl) NoStar.nil))))))
 SS.nil))))))
    case hnm => exact rfl
    case hnd => decide
    case hdbg => decide
    case hcell => decide
    case hk => exact rfl
    case hcn => intro c; rfl
    case hp => wrow_post
    case hW =>
     intro P h
     have hb := law_bits hlay
     have hl : xs.length ≤ 1000000 := by omega
     walk_at "vc"
     refine ⟨xs, 0, rfl, hl, hb, by decide, fun first hf => ⟨xs, 2, rfl, hl, hb, by decide, fun rich hr => ?_⟩⟩
     walk_at "vc"
     refine ⟨xs, 1, rfl, hl, hb, by decide, fun kind hk => ?_⟩
     refine ⟨fun ρ' => ∃ s : PyData, (s = fz ∨ ∃ (sg : Int) (M : Nat) (e : Int), (sg = 0 ∨ sg = 1) ∧ M % 2 = 1 ∧ nb M ≤ 24 ∧ -20 ≤ e ∧ e ≤ 20 ∧ s = mk sg M e) ∧ ρ' = [some (.d (.list (xs.map .int))), some (.d (.int first)), some (.d (.int rich)), some (.d (.int kind)), some (.d s), none, none, none, none, none, none],
       ⟨kind, rfl, hk, ⟨_, .inl rfl, rfl⟩, fun sg M e hs hM hbM h1 h2 => ⟨_, .inr ⟨sg, M, e, hs, hM, hbM, h1, h2, rfl⟩, rfl⟩⟩, ?_⟩
     rintro ρ' ⟨s, hs, rfl⟩
     refine ⟨fun ρ' => ∃ (a : Int) (B : Nat), ((B = 0 ∨ a % 2 ≠ 0) ∧ B ≤ 60 ∧ nb a.natAbs ≤ 60 ∧ ∃ m z : Nat, a.natAbs = m * 2 ^ z ∧ nb m ≤ 40 ∧ z ≤ 100) ∧
         ρ' = [some (.d (.list (xs.map .int))), some (.d (.int first)), some (.d (.int rich)), some (.d (.int kind)), some (.d (nrm a (-(B : Int)))), none, none, none, none, none, none], ?_, ?_⟩
     · rcases hs with rfl | ⟨sg, M, e, hs, hM, hbM, h1, h2, rfl⟩
       · unfold fz
         walk_at "vc"
         refine ⟨fun q => absurd q (by decide), fun _ => ⟨0, 0, ⟨.inl rfl, by decide, by decide, 0, 0, rfl, by decide, by decide⟩, ?_⟩⟩
         rw [nrm_zero]; rfl
       · unfold mk
         walk_at "vc"
         refine ⟨fun _ => ?_, fun q => by omega⟩
         obtain ⟨a, B, hq, hr1, hr2, hr3, hr4⟩ := mk_rat (e := e - 10) hs hM hbM (by omega) (by omega)
         exact ⟨a, B, ⟨hr1, hr2, hr3, hr4⟩, by rw [← hq]; rfl⟩
     rintro ρ' ⟨a, B, ⟨hred, hB, ba, hodd⟩, rfl⟩
     obtain ⟨hll, hnear⟩ := near_ok hB ba hodd
     walk_at "vc"
     have e21 : (2 : Int) ^ Int.toNat 21 + 1 = ((2097153 : Nat) : Int) := by decide
     have e20 : (2 : Int) ^ Int.toNat 20 = 1048576 := by decide
     have e22 : (2 : Int) ^ Int.toNat 22 = ((4194304 : Nat) : Int) := by decide
     have e16 : (2 : Int) ^ Int.toNat 16 = ((65536 : Nat) : Int) := by decide
     rw [e21, e20, e22, e16, fdiv_nat, fmod_nat, fmod_nat]
     have l1 := Nat.mod_lt rich (show 0 < 2097153 by decide)
     have l2 := Nat.mod_lt (rich / 4194304) (show 0 < 65536 by decide)
     generalize rich % 2097153 = r1 at *
     generalize rich / 4194304 % 65536 = r2 at *
     have f5 : (first : Int).fmod 5 = ((first % 5 : Nat) : Int) := fmod_nat first 5
     have f30 : ((first : Int).fdiv 5).fmod 30 = ((first / 5 % 30 : Nat) : Int) := by
       rw [show (first : Int).fdiv 5 = ((first / 5 : Nat) : Int) from fdiv_nat first 5]; exact fmod_nat (first / 5) 30
     rw [f5, f30, Int.toNat_natCast]
     have l3 := Nat.mod_lt first (show 0 < 5 by decide)
     have l4 := Nat.mod_lt (first / 5) (show 0 < 30 by decide)
     generalize first % 5 = j at *
     generalize first / 5 % 30 = i at *
     refine ⟨by decide, by decide, by decide, by decide, by decide, by decide, by decide, by decide, by decide, by decide, by decide, noPy (by decide), by decide, by decide, by decide, by decide, a, B, rfl, hred, by omega, by omega, hll, hnear, ?_⟩
     walk_at "vc"
     refine ⟨by decide, noPy (y := 5) (by decide), by decide, by decide, by omega, by omega, ?_⟩
     have key : ∀ r, Mode r → C_found [PV.d (PyData.int (↑r1 - 1048576)), PV.d (PyData.int (1 + ↑r2)), PV.d (PyData.int (70 + (i : Int))), PV.d (.str r)] P := fun r hr =>
       ⟨(r1 : Int) - 1048576, 1 + r2, 70 + i, r, by push_cast; rfl, hr, by omega, by omega, by omega, by omega, by omega, h⟩
     rcases j with _ | _ | _ | _ | _ | j
     · exact key _ (.inl rfl)
     · exact key _ (.inr (.inl rfl))
     · exact key _ (.inr (.inr (.inl rfl)))
     · exact key _ (.inr (.inr (.inr (.inl rfl))))
     · exact key _ (.inr (.inr (.inr (.inr rfl))))
     · omega)
end Mine

set_option maxHeartbeats 8000000 in
theorem PySem.Challenge.cw_aj5003_01_holds : PySem.Challenge.rw_aj5003_01.Holds := by
  exact Mine.law_holds

