import PyProof.Rows.All
import Wide.All
import OpenK.AllK
import Wide.FinOn
import PySem.Challenge.RW_rl0152_01
open PySem PySem.W PyProof.Rows PySem.Spec PySem.Calls
set_option Elab.async false
set_option linter.unusedVariables false

/-! part 1 -/
namespace Mine

/-- plain data -/
inductive D where
  | int (i : Int)
  | bool (b : Bool)
  | str (x : Str)
  | tup (l : List D)
  | lst (l : List D)
  | dct (l : List (Str × D))

abbrev GMap := Addr → Option Obj

/-- what a proof holds fixed: the program, the world, the heap at the law's call, the one code table that may grow -/
structure Cx where
  prog : Program
  w : World
  h : Heap
  P : Addr
  mg : Str → Option Value
  mb : Str → Option Value
  Tab : Heap → Prop
  cc : Addr

mutual
inductive Rep (C : Cx) (G : GMap) : Value → D → Prop
  | int (i : Int) (t : Tok) : Rep C G (.int i t) (.int i)
  | bool (b : Bool) : Rep C G (.bool b) (.bool b)
  | str (x : Str) (t : Tok) : Rep C G (.str x t) (.str x)
  | tup {a : Addr} {o : Obj} {n : Nat} {vs : List Value} {ds : List D} : G a = some o → o.cls = .type "tuple" → o.data = .seq vs.toArray n → RepL C G vs ds → Rep C G (.ref a) (.tup ds)
  | lst {a : Addr} {o : Obj} {n : Nat} {vs : List Value} {ds : List D} : G a = some o → o.cls = .type "list" → o.data = .seq vs.toArray n → RepL C G vs ds → Rep C G (.ref a) (.lst ds)
  | dct {a : Addr} {o : Obj} {kvs : List (Str × Value)} {l : List (Str × D)} : G a = some o → (a == sysModules) = false → o.IsDictOf (strKind C.prog C.w) kvs → RepE C G kvs l → Rep C G (.ref a) (.dct l)
inductive RepL (C : Cx) (G : GMap) : List Value → List D → Prop
  | nil : RepL C G [] []
  | cons {v : Value} {vs : List Value} {d : D} {ds : List D} : Rep C G v d → RepL C G vs ds → RepL C G (v :: vs) (d :: ds)
inductive RepE (C : Cx) (G : GMap) : List (Str × Value) → List (Str × D) → Prop
  | nil : RepE C G [] []
  | cons {k : Str} {v : Value} {kvs : List (Str × Value)} {d : D} {l : List (Str × D)} : Rep C G v d → RepE C G kvs l → RepE C G ((k, v) :: kvs) ((k, d) :: l)
end

section
variable {C : Cx} {G G' : GMap}
mutual
theorem Rep.mono (hs : ∀ a o, G a = some o → G' a = some o) : ∀ {v : Value} {d : D}, Rep C G v d → Rep C G' v d
  | _, _, .int i t => .int i t
  | _, _, .bool b => .bool b
  | _, _, .str x t => .str x t
  | _, _, .tup h c e r => .tup (hs _ _ h) c e (RepL.mono hs r)
  | _, _, .lst h c e r => .lst (hs _ _ h) c e (RepL.mono hs r)
  | _, _, .dct h n c r => .dct (hs _ _ h) n c (RepE.mono hs r)
theorem RepL.mono (hs : ∀ a o, G a = some o → G' a = some o) : ∀ {vs : List Value} {ds : List D}, RepL C G vs ds → RepL C G' vs ds
  | _, _, .nil => .nil
  | _, _, .cons h r => .cons (Rep.mono hs h) (RepL.mono hs r)
theorem RepE.mono (hs : ∀ a o, G a = some o → G' a = some o) : ∀ {vs : List (Str × Value)} {ds : List (Str × D)}, RepE C G vs ds → RepE C G' vs ds
  | _, _, .nil => .nil
  | _, _, .cons h r => .cons (Rep.mono hs h) (RepE.mono hs r)
end
theorem RepL.length : ∀ {vs : List Value} {ds : List D}, RepL C G vs ds → vs.length = ds.length
  | _, _, .nil => rfl
  | _, _, .cons _ r => by rw [List.length_cons, List.length_cons, RepL.length r]
theorem RepL.append : ∀ {vs : List Value} {ds : List D} {ws : List Value} {es : List D}, RepL C G vs ds → RepL C G ws es → RepL C G (vs ++ ws) (ds ++ es)
  | _, _, _, _, .nil, k => k
  | _, _, _, _, .cons h r, k => .cons h (RepL.append r k)
theorem RepL.get : ∀ {vs : List Value} {ds : List D}, RepL C G vs ds → ∀ {i : Nat} {d : D}, ds[i]? = some d → ∃ v, vs[i]? = some v ∧ Rep C G v d
  | _, _, .nil, i, d, h => by simp at h
  | _, _, .cons (v := v) h r, 0, d, e => ⟨v, rfl, by simp at e; exact e ▸ h⟩
  | _, _, .cons h r, i + 1, d, e => by
    obtain ⟨v, hv, k⟩ := RepL.get r (i := i) (d := d) (by simpa using e)
    exact ⟨v, by simpa using hv, k⟩
theorem RepL.get' : ∀ {vs : List Value} {ds : List D}, RepL C G vs ds → ∀ {i : Nat} {v : Value}, vs[i]? = some v → ∃ d, ds[i]? = some d ∧ Rep C G v d
  | _, _, .nil, i, d, h => by simp at h
  | _, _, .cons (d := d) h r, 0, v, e => ⟨d, rfl, by simp at e; exact e ▸ h⟩
  | _, _, .cons h r, i + 1, v, e => by
    obtain ⟨d, hd, k⟩ := RepL.get' r (i := i) (v := v) (by simpa using e)
    exact ⟨d, by simpa using hd, k⟩
theorem RepL.drop : ∀ {vs : List Value} {ds : List D} (n : Nat), RepL C G vs ds → RepL C G (vs.drop n) (ds.drop n)
  | _, _, 0, h => h
  | _, _, _ + 1, .nil => .nil
  | _, _, n + 1, .cons _ r => RepL.drop n r
theorem RepL.take : ∀ {vs : List Value} {ds : List D} (n : Nat), RepL C G vs ds → RepL C G (vs.take n) (ds.take n)
  | _, _, 0, h => by simpa using RepL.nil
  | _, _, _ + 1, .nil => .nil
  | _, _, n + 1, .cons h r => by rw [List.take_succ_cons, List.take_succ_cons]; exact .cons h (RepL.take n r)
theorem RepL.reverse : ∀ {vs : List Value} {ds : List D}, RepL C G vs ds → RepL C G vs.reverse ds.reverse
  | _, _, .nil => .nil
  | _, _, .cons h r => by rw [List.reverse_cons, List.reverse_cons]; exact (RepL.reverse r).append (.cons h .nil)
theorem RepE.length : ∀ {vs : List (Str × Value)} {ds : List (Str × D)}, RepE C G vs ds → vs.length = ds.length
  | _, _, .nil => rfl
  | _, _, .cons _ r => by rw [List.length_cons, List.length_cons, RepE.length r]
theorem RepE.keys : ∀ {vs : List (Str × Value)} {ds : List (Str × D)}, RepE C G vs ds → vs.map (·.1) = ds.map (·.1)
  | _, _, .nil => rfl
  | _, _, .cons _ r => by rw [List.map_cons, List.map_cons, RepE.keys r]
end

/-- the values of a dict of data -/
def dget (l : List (Str × D)) (k : Str) : Option D := (l.find? fun kv => kv.1 = k).map (·.2)
def dput (l : List (Str × D)) (k : Str) (d : D) : List (Str × D) :=
  if l.any (fun kv => kv.1 = k) then l.map (fun kv => if kv.1 = k then (kv.1, d) else kv) else l ++ [(k, d)]

section
variable {C : Cx} {G : GMap}
theorem RepE.at : ∀ {kvs : List (Str × Value)} {l : List (Str × D)}, RepE C G kvs l → ∀ (k : Str), (valueAt kvs k = none ∧ dget l k = none) ∨ ∃ v d, valueAt kvs k = some v ∧ dget l k = some d ∧ Rep C G v d
  | _, _, .nil, k => .inl ⟨rfl, rfl⟩
  | _, _, .cons (k := k') (v := v) (d := d) h r, k => by
    by_cases e : k' = k
    · exact .inr ⟨v, d, by simp [valueAt, e], by simp [dget, e], h⟩
    · rcases RepE.at r k with ⟨h1, h2⟩ | ⟨v', d', h1, h2, h3⟩
      · exact .inl ⟨by simpa [valueAt, e] using h1, by simpa [dget, e] using h2⟩
      · exact .inr ⟨v', d', by simpa [valueAt, e] using h1, by simpa [dget, e] using h2, h3⟩
theorem RepE.snoc : ∀ {kvs : List (Str × Value)} {l : List (Str × D)}, RepE C G kvs l → ∀ {k : Str} {v : Value} {d : D}, Rep C G v d → RepE C G (kvs ++ [(k, v)]) (l ++ [(k, d)])
  | _, _, .nil, _, _, _, h => .cons h .nil
  | _, _, .cons h r, _, _, _, k => .cons h (RepE.snoc r k)
theorem RepE.any : ∀ {kvs : List (Str × Value)} {l : List (Str × D)}, RepE C G kvs l → ∀ (k : Str), kvs.any (fun kv => kv.1 = k) = l.any (fun kv => kv.1 = k)
  | _, _, .nil, _ => rfl
  | _, _, .cons h r, k => by rw [List.any_cons, List.any_cons, RepE.any r k]
theorem RepE.upd : ∀ {kvs : List (Str × Value)} {l : List (Str × D)}, RepE C G kvs l → ∀ {k : Str} {v : Value} {d : D}, Rep C G v d →
    RepE C G (kvs.map (fun kv => if kv.1 = k then (kv.1, v) else kv)) (l.map (fun kv => if kv.1 = k then (kv.1, d) else kv))
  | _, _, .nil, _, _, _, _ => .nil
  | _, _, .cons (k := k') h r, k, v, d, x => by
    rw [List.map_cons, List.map_cons]
    by_cases e : k' = k
    · rw [if_pos e, if_pos e]; exact .cons x (RepE.upd r x)
    · rw [if_neg e, if_neg e]; exact .cons h (RepE.upd r x)
theorem RepE.put {kvs : List (Str × Value)} {l : List (Str × D)} (h : RepE C G kvs l) {k : Str} {v : Value} {d : D} (x : Rep C G v d) : RepE C G (stored kvs k v) (dput l k d) := by
  unfold stored dput
  rw [h.any k]
  split
  · exact h.upd x
  · exact h.snoc x
end

/-- from (G, s) to (G', s'): what stood stands, but for mu and the code table -/
structure GrS (C : Cx) (mu : List Addr) (G : GMap) (s : Shared) (G' : GMap) (s' : Shared) : Prop where
  keep : ∀ b o, b ∉ mu → b ≠ C.P → s.heap.get? b = some o → s'.heap.get? b = some o
  os : s'.os = s.os
  sub : ∀ a o, G a = some o → G' a = some o
  dom : ∀ a o, G' a = some o → G a = some o ∨ s.heap.get? a = none ∨ a ∈ mu
  noP : G C.P = none → G' C.P = none

structure Base (C : Cx) (G : GMap) (s : Shared) : Prop where
  sat : ∀ a o, G a = some o → s.heap.get? a = some o
  top : ∀ a o, a ≠ C.P → C.h.get? a = some o → G a = some o
  noP : G C.P = none
  tab : C.Tab s.heap
  gens : AllBare s.gens

theorem GrS.refl (C : Cx) (mu : List Addr) (G : GMap) (s : Shared) : GrS C mu G s G s :=
  ⟨fun _ _ _ _ e => e, rfl, fun _ _ e => e, fun _ _ e => .inl e, id⟩
theorem GrS.trans {C : Cx} {mu : List Addr} {G G' G'' : GMap} {s s' s'' : Shared} (x : GrS C mu G s G' s') (y : GrS C mu G' s' G'' s'') : GrS C mu G s G'' s'' :=
  ⟨fun b o hm hp e => y.keep b o hm hp (x.keep b o hm hp e), y.os.trans x.os, fun a o e => y.sub a o (x.sub a o e), fun a o e => by
    rcases y.dom a o e with h | h | h
    · exact x.dom a o h
    · by_cases hm : a ∈ mu
      · exact .inr (.inr hm)
      · cases q : s.heap.get? a with
        | none => exact .inr (.inl rfl)
        | some p =>
          by_cases hp : a = C.P
          · cases q2 : G C.P with
            | some r => exact .inl (by rw [hp, q2]; have := y.sub _ _ (x.sub _ _ q2); rw [← hp, e] at this; exact this.symm)
            | none => have := y.noP (x.noP q2); rw [← hp, e] at this; cases this
          · have := x.keep a p hm hp q; rw [h] at this; cases this
    · exact .inr (.inr h), fun h => y.noP (x.noP h)⟩
theorem GrS.mono {C : Cx} {mu mu' : List Addr} {G G' : GMap} {s s' : Shared} (x : GrS C mu G s G' s') (h : ∀ a ∈ mu, a ∈ mu') : GrS C mu' G s G' s' :=
  ⟨fun b o hm hp e => x.keep b o (fun q => hm (h b q)) hp e, x.os, x.sub, fun a o e => (x.dom a o e).imp id fun q => q.imp id (h a), x.noP⟩
theorem GrS.ex {C : Cx} {mu : List Addr} {G G' : GMap} {s s' : Shared} (x : GrS C [] G s G' s') : GrS C mu G s G' s' := x.mono fun _ h => nomatch h

theorem Rep.grow {C : Cx} {mu : List Addr} {G G' : GMap} {s s' : Shared} (x : GrS C mu G s G' s') {v : Value} {d : D} (h : Rep C G v d) : Rep C G' v d := h.mono x.sub
theorem RepL.grow {C : Cx} {mu : List Addr} {G G' : GMap} {s s' : Shared} (x : GrS C mu G s G' s') {v : List Value} {d : List D} (h : RepL C G v d) : RepL C G' v d := h.mono x.sub
theorem RepE.grow {C : Cx} {mu : List Addr} {G G' : GMap} {s s' : Shared} (x : GrS C mu G s G' s') {v : List (Str × Value)} {d : List (Str × D)} (h : RepE C G v d) : RepE C G' v d := h.mono x.sub

/-- names -/
inductive Bd where
  | v (d : D)
  | own (l : List (Str × D))
abbrev Rho := List (Str × Bd)
abbrev Sig := List (Str × NameKind)

def VarIs (env : Env) (h : Heap) (x : Str) (v : Value) : Prop :=
  match env.kindOf x with
  | some .local => ∃ m, h.Ns env.locals m ∧ m x = some v
  | some .cell | some .free => ∃ c, env.cells.lookup x = some c ∧ h.IsCell c (some v)
  | _ => False

def BdOk (C : Cx) (env : Env) (mu : List Addr) (G : GMap) (h : Heap) (x : Str) : Bd → Prop
  | .v d => ∃ v, VarIs env h x v ∧ Rep C G v d
  | .own l => ∃ a, VarIs env h x (.ref a) ∧ a ∈ mu ∧ a ≠ env.locals ∧ (a == sysModules) = false ∧ ∃ o kvs, h.get? a = some o ∧ o.IsDictOf (strKind C.prog C.w) kvs ∧ RepE C G kvs l

structure EnvOk (C : Cx) (S : Sig) (env : Env) (mu : List Addr) (ρ : Rho) (G : GMap) (h : Heap) : Prop where
  fn : env.scope.kind = .function
  names : env.scope.names = S
  glob : env.globals = mainGlobals
  blt : env.builtins = builtinsNs
  ns : ∃ m, h.Ns env.locals m
  locMu : env.locals ∈ mu
  cells : ∀ x c, env.cells.lookup x = some c → (∃ v, h.IsCell c v) ∧ c ∈ mu
  has : ∀ x, S.lookup x = some .cell ∨ S.lookup x = some .free → ∃ c, env.cells.lookup x = some c
  inj : ∀ x y c, env.cells.lookup x = some c → env.cells.lookup y = some c → x = y
  muOk : ∀ a ∈ mu, G a = none ∧ a ≠ C.P ∧ ∃ o, h.get? a = some o
  vars : ∀ x b, ρ.lookup x = some b → BdOk C env mu G h x b
  code : S.lookup (Str.ofString "zip") = some .globalImplicit → env.code = .ref C.cc

theorem EnvOk.kind {C : Cx} {S : Sig} {env : Env} {mu : List Addr} {ρ : Rho} {G : GMap} {h : Heap} (x : EnvOk C S env mu ρ G h) (n : Str) : env.kindOf n = S.lookup n := by
  unfold Env.kindOf; rw [x.names]

theorem isCell_keeps {h h' : Heap} {c : Addr} {v : Option Value} (x : h.IsCell c v) (hk : ∀ o, h.get? c = some o → h'.get? c = some o) : h'.IsCell c v :=
  let ⟨o, ho, hd⟩ := x; ⟨o, hk o ho, hd⟩

theorem VarIs.keep {env : Env} {h h' : Heap} {x : Str} {v : Value} (hv : VarIs env h x v) (hl : ∀ o, h.get? env.locals = some o → h'.get? env.locals = some o)
    (hc : ∀ c o, env.cells.lookup x = some c → h.get? c = some o → h'.get? c = some o) : VarIs env h' x v := by
  unfold VarIs at hv ⊢
  cases hk : env.kindOf x with
  | none => rw [hk] at hv; exact hv
  | some k =>
    rw [hk] at hv
    cases k with
    | «local» => obtain ⟨m, hn, hm⟩ := hv; exact ⟨m, hn.at' hl, hm⟩
    | cell => obtain ⟨c, e, hi⟩ := hv; exact ⟨c, e, isCell_keeps hi fun o ho => hc c o e ho⟩
    | free => obtain ⟨c, e, hi⟩ := hv; exact ⟨c, e, isCell_keeps hi fun o ho => hc c o e ho⟩
    | globalExplicit => exact hv
    | globalImplicit => exact hv

/-- a step that writes nothing of the frame keeps it -/
theorem EnvOk.grow' {C : Cx} {S : Sig} {env : Env} {mu nu : List Addr} {ρ : Rho} {G G' : GMap} {s s' : Shared} (x : EnvOk C S env mu ρ G s.heap) (g : GrS C nu G s G' s') (hd : ∀ a ∈ nu, a ∉ mu) : EnvOk C S env mu ρ G' s'.heap := by
  have hloc : ∀ o, s.heap.get? env.locals = some o → s'.heap.get? env.locals = some o := fun o ho => g.keep _ _ (fun h => hd _ h x.locMu) (x.muOk _ x.locMu).2.1 ho
  have hcell : ∀ y c o, env.cells.lookup y = some c → s.heap.get? c = some o → s'.heap.get? c = some o := fun y c o hc ho => g.keep _ _ (fun h => hd _ h (x.cells y c hc).2) (x.muOk c (x.cells y c hc).2).2.1 ho
  refine ⟨x.fn, x.names, x.glob, x.blt, ?_, x.locMu, fun y c hc => ?_, x.has, x.inj, fun a ha => ?_, fun y b hb => ?_, x.code⟩
  · obtain ⟨m, hn⟩ := x.ns; exact ⟨m, hn.at' hloc⟩
  · obtain ⟨⟨v, hv⟩, hp⟩ := x.cells y c hc
    exact ⟨⟨v, isCell_keeps hv fun o ho => hcell y c o hc ho⟩, hp⟩
  · obtain ⟨h1, h2, p, h3⟩ := x.muOk a ha
    refine ⟨?_, h2, p, g.keep _ _ (fun h => hd _ h ha) h2 h3⟩
    cases e : G' a with
    | none => rfl
    | some o =>
      rcases g.dom a o e with q | q | q
      · rw [h1] at q; cases q
      · rw [h3] at q; cases q
      · exact absurd ha (hd a q)
  · have hb' := x.vars y b hb
    cases b with
    | v d =>
      obtain ⟨v, hv, hr⟩ := hb'
      exact ⟨v, hv.keep hloc (fun c o hc ho => hcell y c o hc ho), hr.grow g⟩
    | own l =>
      obtain ⟨a, hv, hm, hl, hsm, o, kvs, ho, hdd, hr⟩ := hb'
      exact ⟨a, hv.keep hloc (fun c o hc ho => hcell y c o hc ho), hm, hl, hsm, o, kvs, g.keep _ _ (fun h => hd _ h hm) (x.muOk a hm).2.1 ho, hdd, hr.grow g⟩
theorem EnvOk.grow {C : Cx} {S : Sig} {env : Env} {mu : List Addr} {ρ : Rho} {G G' : GMap} {s s' : Shared} (x : EnvOk C S env mu ρ G s.heap) (g : GrS C [] G s G' s') : EnvOk C S env mu ρ G' s'.heap :=
  x.grow' g fun _ h => nomatch h

theorem EnvOk.weaken {C : Cx} {S : Sig} {env : Env} {mu : List Addr} {ρ ρ' : Rho} {G : GMap} {h : Heap} (x : EnvOk C S env mu ρ G h) (hs : ∀ y b, ρ'.lookup y = some b → ρ.lookup y = some b) : EnvOk C S env mu ρ' G h :=
  { x with vars := fun y b hb => x.vars y b (hs _ _ hb) }

def Room (A : Around) (n : Nat) : Prop := A.handled = none ∧ A.depth + n < recursionLimit ∧ A.units + 8 * n + 100 < cLine
theorem Room.le {A : Around} {m n : Nat} (h : Room A n) (hm : m ≤ n) : Room A m := ⟨h.1, by have := h.2.1; omega, by have := h.2.2; omega⟩

def Ev (C : Cx) (n : Nat) (S : Sig) (ρ : Rho) (e : Expr) (d : D) : Prop :=
  ∀ env A mu G s, Room A n → Base C G s → EnvOk C S env mu ρ G s.heap →
    wpAny (model C.prog C.w) A (eval e env) (fun v s' => ∃ G', GrS C [] G s G' s' ∧ Base C G' s' ∧ Rep C G' v d) (fun _ _ => False) s

def Tst (C : Cx) (n : Nat) (S : Sig) (ρ : Rho) (e : Expr) (b : Bool) : Prop :=
  ∀ env A mu G s, Room A n → Base C G s → EnvOk C S env mu ρ G s.heap →
    wpAny (model C.prog C.w) A (isTrue e env (eval e env)) (fun r s' => r = b ∧ ∃ G', GrS C [] G s G' s' ∧ Base C G' s') (fun _ _ => False) s

/-- states whose heap alone has grown by new objects are reached -/
theorem Base.step {C : Cx} {G : GMap} {s : Shared} (B : Base C G s) {h' : Heap} {tk : Nat} (hk : ∀ b o, s.heap.get? b = some o → h'.get? b = some o) (htab : C.Tab h') : Base C G { s with heap := h', toks := tk } :=
  ⟨fun a o e => hk a o (B.sat a o e), B.top, B.noP, htab, B.gens⟩

/-- Tab hangs on the object P and on what stands -/
def TabLocal (C : Cx) : Prop := ∀ h h' : Heap, C.Tab h → (∀ o, h.get? C.P = some o → h'.get? C.P = some o) → C.Tab h'
end Mine

/-! part 2 -/
namespace Mine
section
variable {C : Cx} {G : GMap} {s : Shared}

abbrev Post (C : Cx) (G : GMap) (s : Shared) (d : D) : Value → Shared → Prop := fun v s' => ∃ G', GrS C [] G s G' s' ∧ Base C G' s' ∧ Rep C G' v d
abbrev NoE : Value → Shared → Prop := fun _ _ => False

theorem Post.here {v : Value} {d : D} (B : Base C G s) (r : Rep C G v d) : Post C G s d v s := ⟨G, .refl C [] G s, B, r⟩
theorem Base.tok (B : Base C G s) (t : Nat) : Base C G { s with toks := t } := ⟨B.sat, B.top, B.noP, B.tab, B.gens⟩
theorem GrS.tok (C : Cx) (mu : List Addr) (G : GMap) (s : Shared) (t : Nat) : GrS C mu G s G { s with toks := t } := ⟨fun _ _ _ _ e => e, rfl, fun _ _ e => e, fun _ _ e => .inl e, id⟩
theorem Post.tok {v : Value} {d : D} {t : Nat} (B : Base C G s) (r : Rep C G v d) : Post C G s d v { s with toks := t } := ⟨G, .tok C [] G s t, B.tok t, r⟩

def addG (G : GMap) (a : Addr) (o : Obj) : GMap := fun b => if b = a then some o else G b
theorem addG_self {G : GMap} {a : Addr} {o : Obj} : addG G a o a = some o := if_pos rfl
theorem addG_sub {G : GMap} {a : Addr} {o : Obj} (h : G a = none) : ∀ b p, G b = some p → addG G a o b = some p := fun b p e => by
  by_cases q : b = a
  · rw [q, h] at e; cases e
  · rw [addG, if_neg q]; exact e

theorem Base.fresh (B : Base C G s) {a : Addr} (h : s.heap.get? a = none) : G a = none := by
  cases e : G a with
  | none => rfl
  | some o => have := B.sat a o e; rw [h] at this; cases this
theorem get_size (h : Heap) : h.get? h.objs.size = none := by
  cases e : h.get? h.objs.size with
  | none => rfl
  | some o => exact absurd (Heap.lt_size e) (Nat.lt_irrefl _)
theorem get_above {h : Heap} {a : Addr} (ha : h.objs.size ≤ a) : h.get? a = none := by
  cases e : h.get? a with
  | none => rfl
  | some o => exact absurd (Heap.lt_size e) (Nat.not_lt.mpr ha)

/-- a heap that has grown by what lies above, one of them frozen -/
theorem grown_one (hT : TabLocal C) (B : Base C G s) {h' : Heap} {tk : Nat} {a : Addr} {o : Obj} (ha : s.heap.get? a = none) (hk : ∀ b p, s.heap.get? b = some p → h'.get? b = some p)
    (ho : h'.get? a = some o) (hP : ∃ p, s.heap.get? C.P = some p) :
    GrS C [] G s (addG G a o) { s with heap := h', toks := tk } ∧ Base C (addG G a o) { s with heap := h', toks := tk } ∧ addG G a o a = some o := by
  have hn := B.fresh ha
  have hne : C.P ≠ a := by rintro rfl; obtain ⟨p, hp⟩ := hP; rw [ha] at hp; cases hp
  refine ⟨⟨fun b p _ _ e => hk b p e, rfl, addG_sub hn, fun b p e => ?_, fun h => by rw [addG, if_neg hne]; exact h⟩, ⟨fun b p e => ?_, fun b p hb e => addG_sub hn b p (B.top b p hb e), ?_, hT _ _ B.tab fun o e => hk _ o e, B.gens⟩, addG_self⟩
  · by_cases q : b = a
    · exact .inr (.inl (q ▸ ha))
    · rw [addG, if_neg q] at e; exact .inl e
  · by_cases q : b = a
    · rw [q, addG_self] at e; cases e; rw [q]; exact ho
    · rw [addG, if_neg q] at e; exact hk b p (B.sat b p e)
  · rw [addG, if_neg hne]; exact B.noP
theorem grown_none (hT : TabLocal C) (B : Base C G s) {h' : Heap} {tk : Nat} (hk : ∀ b p, s.heap.get? b = some p → h'.get? b = some p) :
    GrS C [] G s G { s with heap := h', toks := tk } ∧ Base C G { s with heap := h', toks := tk } :=
  ⟨⟨fun b p _ _ e => hk b p e, rfl, fun _ _ e => e, fun _ _ e => .inl e, id⟩, B.step hk (hT _ _ B.tab fun o e => hk _ o e)⟩
end

/-- what the context knows for good -/
structure Cok (C : Cx) : Prop where
  tabLocal : TabLocal C
  tabP : ∀ h, C.Tab h → ∃ p, h.get? C.P = some p
  g : C.h.Ns mainGlobals C.mg
  b : C.h.Ns builtinsNs C.mb
  lim : C.h.NoLimit
  gP : mainGlobals ≠ C.P
  bP : builtinsNs ≠ C.P
  sP : cStatics ≠ C.P
  bmod : ∃ bm ob, BMod C.h mainGlobals C.mg bm ob
  code0 : C.h.IsCode C.cc C.P #[]
  table0 : C.h.TableAt C.cc C.P #[]
  tabIs : ∀ h, C.Tab h ↔ ∃ ps, h.get? C.P = some { cls := .none, data := .fields ps } ∧ TriplesOk ps.toList

section
variable {C : Cx} {G : GMap} {s : Shared}
theorem Base.ns (B : Base C G s) {a : Addr} {m : Str → Option Value} (h : C.h.Ns a m) (ha : a ≠ C.P) : s.heap.Ns a m := h.at' fun o e => B.sat a o (B.top a o ha e)
theorem Base.nolimit (K : Cok C) (B : Base C G s) : s.heap.NoLimit := let ⟨mc, h, e⟩ := K.lim; ⟨mc, B.ns h K.sP, e⟩
theorem post_alloc (K : Cok C) (B : Base C G s) {h' : Heap} {tk : Nat} {a : Addr} {o : Obj} {d : D} (ha : s.heap.get? a = none) (hk : ∀ b p, s.heap.get? b = some p → h'.get? b = some p)
    (ho : h'.get? a = some o) (r : ∀ G' : GMap, (∀ b p, G b = some p → G' b = some p) → G' a = some o → Rep C G' (.ref a) d) : Post C G s d (.ref a) { s with heap := h', toks := tk } := by
  obtain ⟨x, y, z⟩ := grown_one K.tabLocal B (tk := tk) ha hk ho (K.tabP _ B.tab)
  exact ⟨_, x, y, r _ x.sub z⟩
theorem post_push (K : Cok C) (B : Base C G s) {o : Obj} {tk : Nat} {d : D} (hf : o.isFreed = false) (r : ∀ G' : GMap, (∀ b p, G b = some p → G' b = some p) → G' s.heap.objs.size = some o → Rep C G' (.ref s.heap.objs.size) d) :
    Post C G s d (.ref s.heap.objs.size) { s with heap := s.heap.push o, toks := tk } :=
  post_alloc K B (get_size _) (fun _ _ e => Heap.get?_push_of_some _ e) (Heap.get?_push_size _ hf) r
end

section
variable {C : Cx} {n : Nat} {S : Sig} {ρ : Rho} {pos : Pos}

theorem ev_name {x : Str} {d : D} (h : ρ.lookup x = some (.v d)) (hd : (x == ("__debug__" : Str)) = false := by decide) (hc : (x == ("__classdict__" : Str)) = false := by decide) : Ev C n S ρ (.Name x pos) d := by
  intro env A mu G s hA B X
  obtain ⟨v, hv, hr⟩ := X.vars x (.v d) h
  refine wpAny_Name ?_ hd
  unfold VarIs at hv
  cases hk : env.kindOf x with
  | none => rw [hk] at hv; exact hv.elim
  | some k =>
    rw [hk] at hv
    cases k with
    | «local» => obtain ⟨m, hn, hm⟩ := hv; exact wpAny_loadName_local X.fn hk hn hm (Post.here B hr)
    | cell => obtain ⟨c, e, hi⟩ := hv; exact wpAny_loadName_cell X.fn hk e hi (Post.here B hr)
    | free => obtain ⟨c, e, hi⟩ := hv; exact wpAny_loadName_free X.fn hk e hi (Post.here B hr) hc
    | globalExplicit => exact hv.elim
    | globalImplicit => exact hv.elim

theorem ev_int {i : Int} {k : Nat} : Ev C n S ρ (.Constant (.int i) k pos) (.int i) := fun _ _ _ _ s _ B _ => wpAny_Constant_int (Post.tok B (.int i _))
theorem ev_str {x : Str} {k : Nat} : Ev C n S ρ (.Constant (.str x) k pos) (.str x) := fun _ _ _ _ s _ B _ => fun _ _ _ => Post.tok B (.str x _)
theorem ev_bool {b : Bool} {k : Nat} : Ev C n S ρ (.Constant (.bool b) k pos) (.bool b) := fun _ _ _ _ s _ B _ => fun _ _ _ => Post.here B (.bool b)

def BinOk (C : Cx) (n : Nat) (op : Operator) (d1 d2 d : D) : Prop :=
  ∀ A G s v1 v2, Room A n → Base C G s → Rep C G v1 d1 → Rep C G v2 d2 → wpAny (model C.prog C.w) A (binaryOp op v1 v2) (Post C G s d) NoE s

theorem ev_bin {op : Operator} {l r : Expr} {d1 d2 d : D} (h1 : Ev C n S ρ l d1) (h2 : Ev C n S ρ r d2) (hop : BinOk C n op d1 d2 d) : Ev C n S ρ (.BinOp l op r pos) d := by
  intro env A mu G s hA B X
  refine wpAny_BinOp (wpAny_mono (h1 env A mu G s hA B X) (fun v1 s1 ⟨G1, g1, B1, r1⟩ => ?_) fun _ _ e => e)
  refine wpAny_mono (h2 env A mu G1 s1 hA B1 (X.grow g1)) (fun v2 s2 ⟨G2, g2, B2, r2⟩ => ?_) fun _ _ e => e
  refine wpAny_mono (hop A G2 s2 v1 v2 hA B2 (r1.grow g2) r2) (fun v s3 ⟨G3, g3, B3, r3⟩ => ?_) fun _ _ e => e
  exact ⟨G3, g1.trans (g2.trans g3), B3, r3⟩

theorem bin_add_int {a b : Int} : BinOk C n .Add (.int a) (.int b) (.int (a + b)) := by
  intro A G s v1 v2 hA B r1 r2
  cases r1; cases r2
  exact P.add_int (Post.tok B (.int _ _))
theorem bin_sub_int {a b : Int} : BinOk C n .Sub (.int a) (.int b) (.int (a - b)) := by
  intro A G s v1 v2 hA B r1 r2
  cases r1; cases r2
  exact P.sub_int (Post.tok B (.int _ _))
theorem bin_mod_int {a b : Int} (hb : b ≠ 0) : BinOk C n .Mod (.int a) (.int b) (.int (a.fmod b)) := by
  intro A G s v1 v2 hA B r1 r2
  cases r1; cases r2
  exact mod_int' hb (Post.tok B (.int _ _))
theorem bin_div_int {a b : Int} (hb : b ≠ 0) (hs : b.natAbs < 1073741824) : BinOk C n .FloorDiv (.int a) (.int b) (.int (a.fdiv b)) := by
  intro A G s v1 v2 hA B r1 r2
  cases r1; cases r2
  exact floordiv_int hb (Post.tok B (.int _ _)) (.inl (PyProof.noPylong_small hs))
theorem bin_pow_int {a b : Int} (h0 : 0 ≤ b) (h1 : b ≤ 1000000) (ha : a.natAbs < 2 ^ 64) : BinOk C n .Pow (.int a) (.int b) (.int (a ^ b.toNat)) := by
  intro A G s v1 v2 hA B r1 r2
  cases r1; cases r2
  exact pow_int_small h0 h1 ha (Post.tok B (.int _ _))

theorem str_empty_of {x : Str} (h : (x.length == 0) = true) : x = Str.empty := by
  obtain ⟨c⟩ := x
  have : c.size = 0 := by simpa [Str.length] using h
  have e : c = #[] := by simpa using this
  rw [e]; rfl

theorem bin_add_str {x y : Str} (hsz : x.length + y.length ≤ 1000000) : BinOk C n .Add (.str x) (.str y) (.str (x ++ y)) := by
  intro A G s v1 v2 hA B r1 r2
  cases r1; cases r2
  refine P.add_str ?_
  split
  · rename_i h
    rw [str_empty_of h]
    have e : (Str.empty ++ y : Str) = y := Str.empty_append y
    rw [e]
    exact Post.here B (.str _ _)
  · split
    · rename_i h
      rw [str_empty_of h]
      have e : (x ++ Str.empty : Str) = x := Str.append_empty x
      rw [e]
      exact Post.here B (.str _ _)
    · refine ⟨?_, Post.tok B (.str _ _)⟩
      rw [Str.length_append, sizeLine_eq]; omega

theorem bin_mul_str {x : Str} {k : Int} (h0 : -1000 ≤ k) (h1 : k ≤ 1000) (hx : x.length ≤ 1000) : BinOk C n .Mult (.str x) (.int k) (.str (Txt.mul x k)) := by
  intro A G s v1 v2 hA B r1 r2
  cases r1; cases r2
  refine SB.mul ⟨?_, fun h2 h3 => ?_, fun h2 h3 => ?_⟩ fun t' u => Post.tok B (.str _ _)
  · have e1 : ¬ k < -(2 ^ 63 : Int) := by omega
    have e2 : ¬ k ≥ 2 ^ 63 := by omega
    rw [decide_eq_false e1, decide_eq_false e2]; rfl
  · have e : (1000 : Int) ≤ (2 ^ 63 - 1) / k := by
      rw [Int.le_ediv_iff_mul_le (by omega)]; omega
    omega
  · have hk : k.toNat ≤ 1000 := by omega
    have e : x.length * k.toNat ≤ 1000 * 1000 := Nat.mul_le_mul hx hk
    have e' : ¬ (x.length * k.toNat > sizeLine) := by rw [sizeLine_eq]; omega
    simpa [Builtin.Str.tooLong] using e'
end
end Mine

/-! part 3 -/
namespace Mine
section
variable {C : Cx} {n : Nat} {S : Sig} {ρ : Rho} {pos : Pos} {G : GMap} {s : Shared}

theorem Rep.isTup {a : Addr} {ds : List D} (B : Base C G s) (h : Rep C G (.ref a) (.tup ds)) : ∃ vs, IsTup s.heap a vs.toArray ∧ RepL C G vs ds := by
  cases h with
  | tup h c e r => exact ⟨_, ⟨_, B.sat _ _ h, c, _, e⟩, r⟩
theorem Rep.isList {a : Addr} {ds : List D} (B : Base C G s) (h : Rep C G (.ref a) (.lst ds)) : ∃ vs, s.heap.IsList a vs.toArray ∧ RepL C G vs ds := by
  cases h with
  | lst h c e r => exact ⟨_, ⟨_, B.sat _ _ h, c, _, e⟩, r⟩
theorem Rep.isDict {a : Addr} {l : List (Str × D)} (B : Base C G s) (h : Rep C G (.ref a) (.dct l)) :
    ∃ kvs, s.heap.DictOf (strKind C.prog C.w) a kvs ∧ (a == sysModules) = false ∧ RepE C G kvs l := by
  cases h with
  | dct h n c r => exact ⟨_, Heap.dictOf_iff.mpr ⟨_, B.sat _ _ h, c⟩, n, r⟩
theorem Rep.tup_ref {v : Value} {ds : List D} (h : Rep C G v (.tup ds)) : ∃ a, v = .ref a := by cases h; exact ⟨_, rfl⟩
theorem Rep.lst_ref {v : Value} {ds : List D} (h : Rep C G v (.lst ds)) : ∃ a, v = .ref a := by cases h; exact ⟨_, rfl⟩
theorem Rep.dct_ref {v : Value} {l : List (Str × D)} (h : Rep C G v (.dct l)) : ∃ a, v = .ref a := by cases h; exact ⟨_, rfl⟩

def ItemOk (C : Cx) (n : Nat) (dv di d : D) : Prop :=
  ∀ A G s o i, Room A n → Base C G s → Rep C G o dv → Rep C G i di →
    ∃ T id, s.TypeIs o T ∧ typeLookup (.type T) "__getitem__" = pure (some (.builtin id)) ∧ wpAny (model C.prog C.w) A (getItem o i) (Post C G s d) NoE s

theorem ev_sub {value slice : Expr} {dv di d : D} (h1 : Ev C n S ρ value dv) (h2 : Ev C n S ρ slice di) (hs : ∀ o i, subscripted slice false o i = operate [o, i] (getItem o i)) (hg : ItemOk C n dv di d) :
    Ev C n S ρ (.Subscript value slice pos) d := by
  intro env A mu G s hA B X
  refine Subscript_ (wpAny_mono (h1 env A mu G s hA B X) (fun v1 s1 ⟨G1, g1, B1, r1⟩ => ?_) fun _ _ e => e)
  refine wpAny_mono (h2 env A mu G1 s1 hA B1 (X.grow g1)) (fun v2 s2 ⟨G2, g2, B2, r2⟩ => ?_) fun _ _ e => e
  obtain ⟨T, id, hT, hl, hw⟩ := hg A G2 s2 v1 v2 hA B2 (r1.grow g2) r2
  exact tail_any hT hl (wpAny_mono hw (fun v s3 ⟨G3, g3, B3, r3⟩ => ⟨G3, g1.trans (g2.trans g3), B3, r3⟩) fun _ _ e => e) (hs _ _)

theorem item_lst {ds : List D} {k : Int} {d : D} (h0 : 0 ≤ k) (hhi : k < 2 ^ 63) (hx : ds[k.toNat]? = some d) : ItemOk C n (.lst ds) (.int k) d := by
  intro A G s o i hA B r1 r2
  obtain ⟨a, rfl⟩ := r1.lst_ref
  cases r2
  obtain ⟨vs, hl, hr⟩ := r1.isList B
  obtain ⟨v, hv, rv⟩ := hr.get hx
  exact ⟨"list", _, hl.typeIs, slot_list_getitem.lookup, wpAny_getItem_list hl h0 hhi (by simpa using hv) (Post.here B rv)⟩

theorem item_tup {ds : List D} {k : Int} {d : D} (h0 : 0 ≤ k) (hhi : k < 2 ^ 63) (hx : ds[k.toNat]? = some d) : ItemOk C n (.tup ds) (.int k) d := by
  intro A G s o i hA B r1 r2
  obtain ⟨a, rfl⟩ := r1.tup_ref
  cases r2
  obtain ⟨vs, hl, hr⟩ := r1.isTup B
  obtain ⟨v, hv, rv⟩ := hr.get hx
  have hlen : k.toNat < vs.length := by
    rcases Nat.lt_or_ge k.toNat vs.length with h | h
    · exact h
    · rw [List.getElem?_eq_none h] at hv; cases hv
  refine ⟨"tuple", _, hl.typeIs, slot_tuple_getitem.lookup, getItem_tuple hl (by omega) hhi (j := k.toNat) ?_ (by simpa using hv) (Post.here B rv)⟩
  unfold seqIndex?
  simp only [List.size_toArray]
  have e1 : ¬ k < 0 := by omega
  have e2 : k < (vs.length : Int) := by omega
  simp [e1, e2, h0]

theorem item_dct {l : List (Str × D)} {k : Str} {d : D} (hx : dget l k = some d) : ItemOk C n (.dct l) (.str k) d := by
  intro A G s o i hA B r1 r2
  obtain ⟨a, rfl⟩ := r1.dct_ref
  cases r2
  obtain ⟨kvs, hd, hm, hr⟩ := r1.isDict B
  rcases hr.at k with ⟨_, h2⟩ | ⟨v, d', h1, h2, h3⟩
  · rw [hx] at h2; cases h2
  · rw [hx] at h2; cases h2
    exact ⟨"dict", _, hd.typeIs, slot_dict_getitem.lookup, wpAny_getItem_of (strKind_is C.prog C.w k _) hd.mapOf h1 (Post.tok B h3)⟩

theorem item_str {x : Str} {k : Int} (h0 : 0 ≤ k) (hk : k < x.length) (h63 : (x.length : Int) < 1000000) : ItemOk C n (.str x) (.int k) (.str (Txt.item x k)) := by
  intro A G s o i hA B r1 r2
  cases r1; cases r2
  refine ⟨"str", _, typeIs_str _ _ _, F.slot_str_getitem.lookup, SB.getItem ?_ ?_ (Post.tok B (.str _ _))⟩
  · have e1 : -(2 ^ 63 : Int) ≤ k := by omega
    have e2 : k < (2 ^ 63 : Int) := by omega
    have e3 : ¬ k < -(2 ^ 63 : Int) := by omega
    have e4 : ¬ k ≥ (2 ^ 63 : Int) := by omega
    unfold fitsSsize
    rw [decide_eq_false e3, decide_eq_false e4]; rfl
  · unfold Txt.charAt seqIndex?
    have e1 : ¬ k < 0 := by omega
    have e2 : k.toNat < x.cps.size := by have : x.cps.size = x.length := rfl; omega
    simp [e1, h0, hk, e2]

/-- displays -/
inductive EvL (C : Cx) (n : Nat) (S : Sig) (ρ : Rho) : List Expr → List D → Prop
  | nil : EvL C n S ρ [] []
  | cons {e : Expr} {es : List Expr} {d : D} {ds : List D} : (∀ env, starEach (e :: es) env = (false, eval e env) :: starEach es env) → Ev C n S ρ e d → EvL C n S ρ es ds → EvL C n S ρ (e :: es) (d :: ds)

theorem spliced_evl {es : List Expr} {ds : List D} (h : EvL C n S ρ es ds) : ∀ env A mu G s, Room A n → Base C G s → EnvOk C S env mu ρ G s.heap →
    wpAny (model C.prog C.w) A (spliced (backTo pos (starEach es env))) (fun vs s' => ∃ G', GrS C [] G s G' s' ∧ Base C G' s' ∧ RepL C G' vs ds) NoE s := by
  induction h with
  | nil => intro env A mu G s hA B X; exact wpAny_pure ⟨G, .refl C [] G s, B, .nil⟩
  | cons hst he hes ih =>
    intro env A mu G s hA B X
    rw [hst env]
    show wpAny _ _ (spliced ((false, _) :: backTo pos (starEach _ env))) _ _ s
    unfold spliced
    refine wpAny_bind ?_
    show wpAny _ _ (eval _ env) _ _ s
    refine wpAny_mono (he env A mu G s hA B X) (fun v s1 ⟨G1, g1, B1, r1⟩ => ?_) fun _ _ e => e
    simp only [Bool.false_eq_true, if_false]
    refine wpAny_bind (wpAny_pure (wpAny_bind (wpAny_holding (wpAny_mono (ih env A mu G1 s1 hA B1 (X.grow g1)) (fun vs s2 ⟨G2, g2, B2, r2⟩ => ?_) fun _ _ e => e))))
    exact wpAny_pure ⟨G2, g1.trans g2, B2, .cons (r1.grow g2) r2⟩

theorem ev_tuple (K : Cok C) {es : List Expr} {ds : List D} {k : Nat} (h : EvL C n S ρ es ds) (hl : ds.length ≤ 1000) : Ev C n S ρ (.Tuple es k pos) (.tup ds) := by
  intro env A mu G s hA B X
  refine Tuple_ (wpAny_mono (spliced_evl h env A mu G s hA B X) (fun vs s1 ⟨G1, g1, B1, r1⟩ => ?_) fun _ _ e => e)
  refine wpAny_newTuple ?_ (by rw [r1.length, sizeLine_eq]; omega)
  obtain ⟨G2, g2, B2, r2⟩ := post_push (tk := s1.toks) K B1 (o := { cls := .type "tuple", data := .seq vs.toArray }) rfl (d := .tup ds) fun G' hs hg => .tup hg rfl rfl (r1.mono hs)
  exact ⟨G2, g1.trans g2, B2, r2⟩
theorem ev_list (K : Cok C) {es : List Expr} {ds : List D} (h : EvL C n S ρ es ds) (hl : ds.length ≤ 1000) : Ev C n S ρ (.List es pos) (.lst ds) := by
  intro env A mu G s hA B X
  refine List_ (wpAny_mono (spliced_evl h env A mu G s hA B X) (fun vs s1 ⟨G1, g1, B1, r1⟩ => ?_) fun _ _ e => e)
  refine wpAny_newList ?_ (by rw [r1.length, sizeLine_eq]; omega)
  obtain ⟨G2, g2, B2, r2⟩ := post_push (tk := s1.toks) K B1 (o := { cls := .type "list", data := .seq vs.toArray }) rfl (d := .lst ds) fun G' hs hg => .lst hg rfl rfl (r1.mono hs)
  exact ⟨G2, g1.trans g2, B2, r2⟩

/-- + of lists and tuples -/
theorem bin_add_lst (K : Cok C) {xs ys : List D} (hsz : xs.length + ys.length ≤ 1000) : BinOk C n .Add (.lst xs) (.lst ys) (.lst (xs ++ ys)) := by
  intro A G s v1 v2 hA B r1 r2
  obtain ⟨a, rfl⟩ := r1.lst_ref
  obtain ⟨b, rfl⟩ := r2.lst_ref
  obtain ⟨vs, h1, p1⟩ := r1.isList B
  obtain ⟨ws, h2, p2⟩ := r2.isList B
  obtain ⟨⟨cls, dd, data, sl⟩, ho, hc, m1, hd⟩ := id h1
  obtain ⟨⟨cls2, dd2, data2, sl2⟩, ho2, hc2, m2, hd2⟩ := id h2
  simp only at hc hd hc2 hd2
  subst hc hd hc2 hd2
  have e : vs.toArray ++ ws.toArray = (vs ++ ws).toArray := by simp
  refine concat_meets ⟨_, ho, rfl⟩ ⟨_, ho2, rfl⟩ noFill_list_add seq_list_add PySem.F.slot_list_add PySem.F.entry_list_add (PySem.F.args_list_add_2 _ _)
    (list_addW a b vs.toArray ws.toArray m1 m2 dd dd2 sl sl2 (by rw [List.size_toArray, List.size_toArray, p1.length, p2.length, sizeLine_eq]; omega)) ⟨ho, ho2, ?_⟩
  rw [e]
  exact post_push (tk := s.toks) K B (o := { cls := .type "list", data := .seq (vs ++ ws).toArray }) rfl fun G' hs hg => .lst hg rfl rfl ((p1.mono hs).append (p2.mono hs))

theorem bin_add_tup (K : Cok C) {xs ys : List D} (hx : xs ≠ []) (hy : ys ≠ []) (hsz : xs.length + ys.length ≤ 1000) : BinOk C n .Add (.tup xs) (.tup ys) (.tup (xs ++ ys)) := by
  intro A G s v1 v2 hA B r1 r2
  obtain ⟨a, rfl⟩ := r1.tup_ref
  obtain ⟨b, rfl⟩ := r2.tup_ref
  obtain ⟨vs, h1, p1⟩ := r1.isTup B
  obtain ⟨ws, h2, p2⟩ := r2.isTup B
  obtain ⟨⟨cls, dd, data, sl⟩, ho, hc, m1, hd⟩ := id h1
  obtain ⟨⟨cls2, dd2, data2, sl2⟩, ho2, hc2, m2, hd2⟩ := id h2
  simp only at hc hd hc2 hd2
  subst hc hd hc2 hd2
  have e : vs.toArray ++ ws.toArray = (vs ++ ws).toArray := by simp
  have e1 : vs ≠ [] := fun q => hx (List.eq_nil_of_length_eq_zero (by rw [← p1.length, q]; rfl))
  have e2 : ws ≠ [] := fun q => hy (List.eq_nil_of_length_eq_zero (by rw [← p2.length, q]; rfl))
  refine concat_meets ⟨_, ho, rfl⟩ ⟨_, ho2, rfl⟩ noFill_tuple_add seq_tuple_add PySem.F.slot_tuple_add PySem.F.entry_tuple_add (PySem.F.args_tuple_add_2 _ _)
    (tuple_addW2 a b vs.toArray ws.toArray m1 m2 dd dd2 sl sl2 (by simpa using e1) (by simpa using e2) (by rw [List.size_toArray, List.size_toArray, p1.length, p2.length, sizeLine_eq]; omega)) ⟨ho, ho2, ?_⟩
  rw [e]
  exact post_push (tk := s.toks) K B (o := { cls := .type "tuple", data := .seq (vs ++ ws).toArray }) rfl fun G' hs hg => .tup hg rfl rfl ((p1.mono hs).append (p2.mono hs))
end
end Mine

/-! part 4 -/
namespace Mine
section
variable {C : Cx} {n : Nat} {S : Sig} {ρ : Rho} {pos p : Pos} {G : GMap} {s : Shared}

theorem RepL.inv {vs : List Value} {d : D} {ds : List D} (h : RepL C G vs (d :: ds)) : ∃ v vs', vs = v :: vs' ∧ Rep C G v d ∧ RepL C G vs' ds := by
  cases h with | cons h r => exact ⟨_, _, rfl, h, r⟩
theorem RepL.inv0 {vs : List Value} (h : RepL C G vs []) : vs = [] := by cases h; rfl

theorem ev_neg {e : Expr} {i : Int} (h : Ev C n S ρ e (.int i)) : Ev C n S ρ (.UnaryOp .USub e pos) (.int (-i)) := by
  intro env A mu G s hA B X
  refine wpAny_UnaryOp (wpAny_mono (h env A mu G s hA B X) (fun v s1 ⟨G1, g1, B1, r1⟩ => ?_) fun _ _ e => e)
  cases r1
  exact PyProof.Rows.neg_int ⟨G1, g1.trans (.tok C [] G1 s1 _), B1.tok _, .int _ _⟩

inductive PartEv (C : Cx) (n : Nat) (S : Sig) (ρ : Rho) : Option Expr → Option Int → Prop
  | none : PartEv C n S ρ none none
  | some {e : Expr} {i : Int} : Ev C n S ρ e (.int i) → PartEv C n S ρ (some e) (some i)

theorem part_ev {e : Option Expr} {k : Option Int} (h : PartEv C n S ρ e k) : ∀ env A mu G s, Room A n → Base C G s → EnvOk C S env mu ρ G s.heap →
    wpAny (model C.prog C.w) A (evalPart e env) (fun v s' => ∃ G', GrS C [] G s G' s' ∧ Base C G' s' ∧ IsPart v k) NoE s := by
  intro env A mu G s hA B X
  cases h with
  | none => rw [evalPart_none]; exact wpAny_pure ⟨G, .refl C [] G s, B, .none⟩
  | some h =>
    rw [evalPart_some]
    refine wpAny_mono (h env A mu G s hA B X) (fun v s1 ⟨G1, g1, B1, r1⟩ => ?_) fun _ _ e => e
    cases r1
    exact ⟨G1, g1, B1, .int _ _⟩

theorem ev_slice_lst (K : Cok C) {value : Expr} {lo hi st : Option Expr} {l u t : Option Int} {ds ds' : List D} {f : List Value → List Value}
    (h1 : Ev C n S ρ value (.lst ds)) (hl : PartEv C n S ρ lo l) (hu : PartEv C n S ρ hi u) (ht : PartEv C n S ρ st t) (h0 : t ≠ some 0)
    (hpick : ∀ vs : List Value, vs.length = ds.length → slicePick vs.toArray l u t = (f vs).toArray) (hf : ∀ (G : GMap) (vs : List Value), RepL C G vs ds → RepL C G (f vs) ds') (hsz : ds.length ≤ 1000) :
    Ev C n S ρ (.Subscript value (.Slice lo hi st p) pos) (.lst ds') := by
  intro env A mu G s hA B X
  refine Subscript_ (wpAny_mono (h1 env A mu G s hA B X) (fun v1 s1 ⟨G1, g1, B1, r1⟩ => ?_) fun _ _ e => e)
  obtain ⟨a, rfl⟩ := r1.lst_ref
  have X1 := X.grow g1
  refine wpAny_Slice (wpAny_mono (part_ev hl env A mu G1 s1 hA B1 X1) (fun vl s2 ⟨G2, g2, B2, p2⟩ => ?_) fun _ _ e => e)
  have X2 := X1.grow g2
  refine wpAny_mono (part_ev hu env A mu G2 s2 hA B2 X2) (fun vu s3 ⟨G3, g3, B3, p3⟩ => ?_) fun _ _ e => e
  have X3 := X2.grow g3
  refine wpAny_mono (part_ev ht env A mu G3 s3 hA B3 X3) (fun vt s4 ⟨G4, g4, B4, p4⟩ => ?_) fun _ _ e => e
  obtain ⟨vs, hL, hr⟩ := (r1.grow (g2.trans (g3.trans g4))).isList B4
  have hlen : vs.length ≤ sizeLine := by rw [hr.length, sizeLine_eq]; omega
  have hg := wpAny_getItem_list_slice (prog := C.prog) (w := C.w) (A := A) (E := NoE) (s := { s4 with heap := s4.heap.push { cls := .type "slice", data := .fields #[vl, vu, vt] } })
    (Q := Post C G s (.lst ds')) (hL.push _) (Heap.IsSliceOf.new s4.heap vl vu vt) p2 p3 p4 h0
    (by
      rw [hpick vs hr.length]
      obtain ⟨G5, g5, B5, r5⟩ := post_alloc K B4 (tk := s4.toks) (h' := (s4.heap.push { cls := .type "slice", data := .fields #[vl, vu, vt] }).push { cls := .type "list", data := .seq (f vs).toArray })
        (a := (s4.heap.push { cls := .type "slice", data := .fields #[vl, vu, vt] }).objs.size) (o := { cls := .type "list", data := .seq (f vs).toArray }) (d := .lst ds')
        (get_above (by rw [Heap.size_push]; exact Nat.le_succ _)) (fun _ _ e => Heap.get?_push_of_some _ (Heap.get?_push_of_some _ e)) (Heap.get?_push_size _ rfl)
        (fun G' hs hg => .lst hg rfl rfl (hf _ _ (hr.mono hs)))
      exact ⟨G5, g1.trans (g2.trans (g3.trans (g4.trans g5))), B5, r5⟩) (by simpa using hlen)
  have hT : Shared.TypeIs { s4 with heap := s4.heap.push { cls := .type "slice", data := .fields #[vl, vu, vt] } } (.ref a) "list" := (hL.push _).typeIs
  cases st with
  | none => exact tail_any hT list_getitem_lookup hg rfl
  | some e => exact tail_any hT list_getitem_lookup hg rfl

theorem ev_upto (K : Cok C) {value hi : Expr} {k : Nat} {ds : List D} (h1 : Ev C n S ρ value (.lst ds)) (hu : Ev C n S ρ hi (.int k)) (hsz : ds.length ≤ 1000) :
    Ev C n S ρ (.Subscript value (.Slice none (some hi) none p) pos) (.lst (ds.take k)) :=
  ev_slice_lst K (f := fun vs => vs.take k) h1 .none (.some hu) .none (by simp) (fun vs _ => by rw [slicePick_upto']) (fun _ _ r => r.take k) hsz
theorem ev_from (K : Cok C) {value lo : Expr} {k : Nat} {ds : List D} (h1 : Ev C n S ρ value (.lst ds)) (hl : Ev C n S ρ lo (.int k)) (hsz : ds.length ≤ 1000) :
    Ev C n S ρ (.Subscript value (.Slice (some lo) none none p) pos) (.lst (ds.drop k)) :=
  ev_slice_lst K (f := fun vs => vs.drop k) h1 (.some hl) .none .none (by simp) (fun vs _ => by rw [slicePick_from']) (fun _ _ r => r.drop k) hsz
theorem ev_rev (K : Cok C) {value st : Expr} {ds : List D} (h1 : Ev C n S ρ value (.lst ds)) (ht : Ev C n S ρ st (.int (-1))) (hsz : ds.length ≤ 1000) :
    Ev C n S ρ (.Subscript value (.Slice none none (some st) p) pos) (.lst ds.reverse) :=
  ev_slice_lst K (f := fun vs => vs.reverse) h1 .none .none (.some ht) (by simp) (fun vs _ => by rw [krv_pick]) (fun _ _ r => r.reverse) hsz
theorem ev_between (K : Cok C) {value lo hi : Expr} {a b : Nat} {ds : List D} (h1 : Ev C n S ρ value (.lst ds)) (hl : Ev C n S ρ lo (.int a)) (hu : Ev C n S ρ hi (.int b)) (hab : a ≤ b) (hb : b ≤ ds.length) (hsz : ds.length ≤ 1000) :
    Ev C n S ρ (.Subscript value (.Slice (some lo) (some hi) none p) pos) (.lst ((ds.drop a).take (b - a))) :=
  ev_slice_lst K (f := fun vs => (vs.drop a).take (b - a)) h1 (.some hl) (.some hu) .none (by simp)
    (fun vs hv => by rw [slicePick_plain]; simp only [Option.elim, clipAt_nat, List.size_toArray]; rw [Nat.min_eq_left (by omega), Nat.min_eq_left (by omega)]) (fun _ _ r => (r.drop a).take (b - a)) hsz

/-- entry[:4] of a tuple of five -/
theorem sliceApplied_4 {prog : Program} {w : World} {A : Around} {E : Value → Shared → Prop} {sl : Addr} {u : Tok} {Q : Int × Int × Nat → Shared → Prop} (hs : s.heap.IsSliceOf sl .none (.int 4 u) .none) (h : Q (0, 1, 4) s) :
    wpAny (model prog w) A (Builtin.Slice.sliceApplied (.ref sl) (pure (5 : Int))) Q E s := by
  obtain ⟨os, hos, hcs, hds⟩ := id hs
  unfold Builtin.Slice.sliceApplied Builtin.Slice.sliceFields
  refine wpAny_bind (wpAny_bind (wpAny_field hos hds (x := .none) rfl (wpAny_bind (wpAny_field hos hds (x := .int 4 u) rfl (wpAny_bind (wpAny_field hos hds (x := .none) rfl (wpAny_pure ?_)))))))
  refine wpAny_bind (slicePart_none ?_)
  show wpAny _ _ (if ((1 : Int) == 0) = true then _ else _) _ _ s
  rw [if_neg (by decide)]
  refine wpAny_bind (slicePart_none (wpAny_bind (slicePart_int (wpAny_bind (wpAny_pure ?_)))))
  show wpAny _ _ (match Builtin.Slice.sliceAdjust none (some (4 : Int)) 1 (5 : Int) with | (lo, hi) => pure (lo, (1 : Int), Builtin.Slice.slicePlaces lo hi 1)) _ _ s
  rw [show Builtin.Slice.sliceAdjust none (some (4 : Int)) 1 (5 : Int) = (0, 4) by decide]
  show wpAny _ _ (pure ((0 : Int), (1 : Int), Builtin.Slice.slicePlaces (0 : Int) (4 : Int) 1)) _ _ s
  rw [show Builtin.Slice.slicePlaces (0 : Int) (4 : Int) 1 = 4 by decide]
  exact wpAny_pure h

theorem ev_four (K : Cok C) {value hi : Expr} {d0 d1 d2 d3 d4 : D} (h1 : Ev C n S ρ value (.tup [d0, d1, d2, d3, d4])) (hu : Ev C n S ρ hi (.int 4)) :
    Ev C n S ρ (.Subscript value (.Slice none (some hi) none p) pos) (.tup [d0, d1, d2, d3]) := by
  intro env A mu G s hA B X
  refine Subscript_ (wpAny_mono (h1 env A mu G s hA B X) (fun v1 s1 ⟨G1, g1, B1, r1⟩ => ?_) fun _ _ e => e)
  obtain ⟨a, rfl⟩ := r1.tup_ref
  have X1 := X.grow g1
  refine wpAny_Slice ?_
  rw [evalPart_none, evalPart_some]
  refine wpAny_pure (wpAny_mono (hu env A mu G1 s1 hA B1 X1) (fun vu s3 ⟨G3, g3, B3, p3⟩ => ?_) fun _ _ e => e)
  refine wpAny_pure ?_
  obtain ⟨u, rfl⟩ : ∃ u, vu = .int 4 u := by cases p3; exact ⟨_, rfl⟩
  obtain ⟨vs, hL, hr⟩ := (r1.grow g3).isTup B3
  obtain ⟨v0, vs, rfl, q0, hr⟩ := hr.inv
  obtain ⟨v1, vs, rfl, q1, hr⟩ := hr.inv
  obtain ⟨v2, vs, rfl, q2, hr⟩ := hr.inv
  obtain ⟨v3, vs, rfl, q3, hr⟩ := hr.inv
  obtain ⟨v4, vs, rfl, q4, hr⟩ := hr.inv
  obtain rfl := hr.inv0
  have hL' : IsTup (s3.heap.push { cls := .type "slice", data := .fields #[.none, .int 4 u, .none] }) a #[v0, v1, v2, v3, v4] := hL.keeps fun _ _ e => Heap.get?_push_of_some _ e
  have hsl := Heap.IsSliceOf.new s3.heap .none (.int 4 u) .none
  obtain ⟨os, hos, hcs, hds⟩ := id hsl
  have hTs : Shared.TypeIs { s3 with heap := s3.heap.push { cls := .type "slice", data := .fields #[.none, .int 4 u, .none] } } (.ref s3.heap.objs.size) "slice" := ⟨os, hos, hcs⟩
  refine tail_any (s := { s3 with heap := s3.heap.push { cls := .type "slice", data := .fields #[.none, .int 4 u, .none] } }) hL'.typeIs slot_tuple_getitem.lookup ?_ rfl
  unfold getItem
  try with_reducible refine wpAny_holding ?_
  first | refine wpAny_bind (wpAny_pure ?_) | skip
  refine wpAny_bind (wpAny_sequenceKey (s := { s3 with heap := s3.heap.push { cls := .type "slice", data := .fields #[.none, .int 4 u, .none] } }) hL'.typeIs (by decide) ?_)
  refine wpAny_bind (wpAny_callSpecial?_slot (name := Str.ofString "__getitem__") (s := { s3 with heap := s3.heap.push { cls := .type "slice", data := .fields #[.none, .int 4 u, .none] } }) hL'.typeIs slot_tuple_getitem
    (wpAny_call_entry slot_tuple_getitem (s := { s3 with heap := s3.heap.push { cls := .type "slice", data := .fields #[.none, .int 4 u, .none] } }) hL'.typeIs entry_tuple_getitem ?_ (args_tuple_getitem _ _)))
  show wpAny _ _ (Builtin.Tuple.tupleItemsOf (.ref a) >>= _) _ _ _
  refine wpAny_bind (tupleItemsOf_ (s := { s3 with heap := s3.heap.push { cls := .type "slice", data := .fields #[.none, .int 4 u, .none] } }) hL' ?_)
  refine wpAny_bind (wpAny_typeOf hTs ?_)
  rw [if_pos (by decide)]
  refine wpAny_bind (sliceApplied_4 (s := { s3 with heap := s3.heap.push { cls := .type "slice", data := .fields #[.none, .int 4 u, .none] } }) hsl ?_)
  show wpAny _ _ (if ((0 : Int) == 0 && (1 : Int) == 1 && (4 : Nat) == 5) = true then _ else _) _ _ _
  rw [if_neg (by decide)]
  have hpk : ((List.range 4).filterMap fun (k : Nat) => (#[v0, v1, v2, v3, v4] : Array Value)[((0 : Int) + (k : Int) * 1).toNat]?).toArray = #[v0, v1, v2, v3] := by rfl
  have fin : Post C G s (.tup [d0, d1, d2, d3]) (.ref (s3.heap.objs.size + 1)) { s3 with heap := (s3.heap.push { cls := .type "slice", data := .fields #[.none, .int 4 u, .none] }).push { cls := .type "tuple", data := .seq #[v0, v1, v2, v3] } } := by
    obtain ⟨G5, g5, B5, r5⟩ := post_alloc K B3 (tk := s3.toks) (h' := (s3.heap.push { cls := .type "slice", data := .fields #[.none, .int 4 u, .none] }).push { cls := .type "tuple", data := .seq #[v0, v1, v2, v3] })
      (a := s3.heap.objs.size + 1) (o := { cls := .type "tuple", data := .seq #[v0, v1, v2, v3] }) (d := .tup [d0, d1, d2, d3])
      (get_above (Nat.le_succ _)) (fun _ _ e => Heap.get?_push_of_some _ (Heap.get?_push_of_some _ e)) (by rw [← Heap.size_push (o := { cls := .type "slice", data := .fields #[.none, .int 4 u, .none] })]; exact Heap.get?_push_size _ rfl)
      (fun G' hs hg => .tup (vs := [v0, v1, v2, v3]) hg rfl rfl (.cons (q0.mono hs) (.cons (q1.mono hs) (.cons (q2.mono hs) (.cons (q3.mono hs) .nil)))))
    exact ⟨G5, g1.trans (g3.trans g5), B5, r5⟩
  rw [← Heap.size_push (h := s3.heap) (o := { cls := .type "slice", data := .fields #[.none, .int 4 u, .none] })] at fin
  rw [hpk]
  first
    | exact wpAny_bind (m := Builtin.Tuple.tupleExact _) (wpAny_newObj_type (wpAny_pure ⟨_, rfl, wpAny_pure fin⟩) (show (4 : Nat) ≤ sizeLine by decide))
    | exact wpAny_bind (m := Builtin.Tuple.tupleExact _) (wpAny_newObj_type (wpAny_bind (wpAny_pure (wpAny_pure ⟨_, rfl, wpAny_pure fin⟩))) (show sizeOk (.seq #[v0, v1, v2, v3]) from (show (4 : Nat) ≤ sizeLine by decide)))
    | exact wpAny_bind (wpAny_bind (m := Builtin.Tuple.tupleExact _) (wpAny_newObj_type (wpAny_pure (wpAny_pure ⟨_, rfl, wpAny_pure fin⟩)) (by decide)))
    | exact wpAny_bind (wpAny_bind (m := Builtin.Tuple.tupleExact _) (wpAny_newObj_type (wpAny_pure ⟨_, rfl, wpAny_pure fin⟩) (show sizeOk (.seq #[v0, v1, v2, v3]) from (show (4 : Nat) ≤ sizeLine by decide))))
end
end Mine

/-! part 5 -/
namespace Mine

/-- data without dicts, at most n deep; data with dicts of such, at most n deep -/
def flatD : Nat → D → Bool
  | _, .int _ => true
  | _, .bool _ => true
  | _, .str _ => true
  | n + 1, .tup l => l.all (flatD n)
  | n + 1, .lst l => l.all (flatD n)
  | _, _ => false
def deepD : Nat → D → Bool
  | _, .int _ => true
  | _, .bool _ => true
  | _, .str _ => true
  | n + 1, .tup l => l.all (deepD n)
  | n + 1, .lst l => l.all (deepD n)
  | n + 1, .dct l => l.all fun p => flatD n p.2
  | _, _ => false

section
variable {C : Cx} {G : GMap} {s : Shared}

theorem eqAt_flat : ∀ (n : Nat) (d : D), flatD n d = true → ∀ (A : Around) (v v' : Value), Base C G s → Rep C G v d → Rep C G v' d → A.units + n < cLine → SeqAt.EqAt A s v v' true := by
  intro n
  induction n with
  | zero =>
    intro d hd A v v' B r r' hu
    cases d with
    | int i => cases r with | int _ t => cases r' with | int _ t' => have := SeqAt.EqAt.int_int (A := A) (s := s) i t i t'; rwa [beq_self_eq_true] at this
    | bool b => cases r; cases r'; have := SeqAt.EqAt.bool_bool (A := A) (s := s) b b; rwa [beq_self_eq_true] at this
    | str x => cases r with | str _ t => cases r' with | str _ t' => have := SeqAt.EqAt.str_str (A := A) (s := s) x t x t'; rwa [beq_self_eq_true] at this
    | tup l => cases hd
    | lst l => cases hd
    | dct l => cases hd
  | succ n ih =>
    intro d hd A v v' B r r' hu
    cases d with
    | int i => cases r with | int _ t => cases r' with | int _ t' => have := SeqAt.EqAt.int_int (A := A) (s := s) i t i t'; rwa [beq_self_eq_true] at this
    | bool b => cases r; cases r'; have := SeqAt.EqAt.bool_bool (A := A) (s := s) b b; rwa [beq_self_eq_true] at this
    | str x => cases r with | str _ t => cases r' with | str _ t' => have := SeqAt.EqAt.str_str (A := A) (s := s) x t x t'; rwa [beq_self_eq_true] at this
    | tup l =>
      have hd' : ∀ x ∈ l, flatD n x = true := List.all_eq_true.mp hd
      obtain ⟨a, rfl⟩ := r.tup_ref
      obtain ⟨b, rfl⟩ := r'.tup_ref
      obtain ⟨vs, h1, p1⟩ := r.isTup B
      obtain ⟨ws, h2, p2⟩ := r'.isTup B
      by_cases hab : a = b
      · subst hab; exact .same _
      · refine .of_refs hab ?_
        have key := SeqAt.RcAt.tuples (A := A) (s := s) (e := fun _ => true) (l := a) (b := b) (items := vs.toArray) (items2 := ws.toArray) h1 h2 (by omega) fun j q1 q2 => by
          obtain ⟨x, hx, k1⟩ := p1.get' (i := j) (v := vs.toArray[j]) (by rw [← List.getElem?_toArray]; exact Array.getElem?_eq_getElem q1)
          obtain ⟨y, hy, k2⟩ := p2.get' (i := j) (v := ws.toArray[j]) (by rw [← List.getElem?_toArray]; exact Array.getElem?_eq_getElem q2)
          rw [hx] at hy; cases hy
          exact ih x (hd' x (List.mem_of_getElem? hx)) A.in1 _ _ B k1 k2 (by show A.units + 1 + n < cLine; omega)
        have e : ((List.range (min vs.toArray.size ws.toArray.size)).all (fun _ => true) && vs.toArray.size == ws.toArray.size) = true := by
          rw [Bool.and_eq_true]
          exact ⟨List.all_eq_true.mpr fun _ _ => rfl, by rw [List.size_toArray, List.size_toArray, p1.length, p2.length]; exact beq_self_eq_true _⟩
        rwa [e] at key
    | lst l =>
      have hd' : ∀ x ∈ l, flatD n x = true := List.all_eq_true.mp hd
      obtain ⟨a, rfl⟩ := r.lst_ref
      obtain ⟨b, rfl⟩ := r'.lst_ref
      obtain ⟨vs, h1, p1⟩ := r.isList B
      obtain ⟨ws, h2, p2⟩ := r'.isList B
      by_cases hab : a = b
      · subst hab; exact .same _
      · refine .of_refs hab ?_
        have key := SeqAt.RcAt.lists (A := A) (s := s) (e := fun _ => true) (l := a) (b := b) (items := vs.toArray) (items2 := ws.toArray) h1 h2 (by rw [List.size_toArray, List.size_toArray, p1.length, p2.length]) (by omega) fun j q1 q2 => by
          obtain ⟨x, hx, k1⟩ := p1.get' (i := j) (v := vs.toArray[j]) (by rw [← List.getElem?_toArray]; exact Array.getElem?_eq_getElem q1)
          obtain ⟨y, hy, k2⟩ := p2.get' (i := j) (v := ws.toArray[j]) (by rw [← List.getElem?_toArray]; exact Array.getElem?_eq_getElem q2)
          rw [hx] at hy; cases hy
          exact ih x (hd' x (List.mem_of_getElem? hx)) A.in1 _ _ B k1 k2 (by show A.units + 1 + n < cLine; omega)
        have e : ((List.range vs.toArray.size).all (fun _ => true)) = true := List.all_eq_true.mpr fun _ _ => rfl
        rwa [e] at key
    | dct l => cases hd

/-- equality that answers True, in this program and world -/
def EqT (C : Cx) (A : Around) (s : Shared) (y x : Value) : Prop :=
  ∀ (E : Value → Shared → Prop) (Q : Bool → Shared → Prop), Q true s → wpAny (model C.prog C.w) A (eqBool y x) Q E s
def RcT (C : Cx) (A : Around) (s : Shared) (y x : Value) : Prop :=
  ∀ (E : Value → Shared → Prop) (Q : Value → Shared → Prop), Q (.bool true) s → wpAny (model C.prog C.w) A (richCompare .Eq y x) Q E s
theorem EqT.of_at {A : Around} {y x : Value} (h : SeqAt.EqAt A s y x true) : EqT C A s y x := fun E Q q => h C.prog C.w E Q q
theorem EqT.of_refs {A : Around} {l b : Addr} (hne : l ≠ b) (h : RcT C A s (.ref l) (.ref b)) : EqT C A s (.ref l) (.ref b) := fun E Q hq => by
  unfold eqBool
  refine wpAny_holding ?_
  refine wpAny_ite_split (fun hab => absurd (by have := eq_of_beq hab; injection this) hne) (fun _ => ?_)
  exact wpAny_bind (h E _ (wpAny_truthy_bool hq))

open AutoSeq1 (wpAny_loadPart') in
theorem tuple_eqT {A : Around} {l b : Addr} {items items2 : Array Value} (hl : IsTup s.heap l items) (hb : IsTup s.heap b items2) (hsz : items.size = items2.size) (hu : A.units < cLine)
    (he : ∀ j (h1 : j < items.size) (h2 : j < items2.size), EqT C A.in1 s items[j] items2[j]) : RcT C A s (.ref l) (.ref b) := fun E Q hq => by
  obtain ⟨⟨cls, dd, data, sl⟩, ho, hc, n, hd⟩ := id hl
  obtain ⟨⟨cls2, dd2, data2, sl2⟩, ho2, hc2, n2, hd2⟩ := id hb
  simp only at hc hd hc2 hd2
  subst hc hd hc2 hd2
  refine wpAny_richCompare_same_room (op := .Eq) (T := "tuple") ⟨_, ho, rfl⟩ ⟨_, ho2, rfl⟩ F.slot_tuple_eq (wpAny_call_entry F.slot_tuple_eq (T := "tuple") ⟨_, ho, rfl⟩ F.entry_tuple_eq ?_ (F.args_tuple_eq_2 _ _)) hu
  obtain ⟨hp, g, d, tk, os⟩ := s
  have f2 := AutoSeq1.sub_tuple_tuple
  have hZ : (items.toList.zip items2.toList).length = items.size := by simp [hsz]
  wp_walk using wpAny_loadPart' ho, wpAny_loadPart' ho2, wpAny_forIn_list _ (fun rest b s' => b.1 = none ∧ s' = ⟨hp, g, d, tk, os⟩ ∧ ∃ i, rest = (items.toList.zip items2.toList).drop i) _
  case turn =>
    rintro ⟨y, x⟩ rest b s' ⟨hb', rfl, i, hz⟩
    have hlt : i < (items.toList.zip items2.toList).length := by
      rcases Nat.lt_or_ge i (items.toList.zip items2.toList).length with h' | h'
      · exact h'
      · rw [List.drop_of_length_le h'] at hz; cases hz
    have h1 : i < items.size := hZ ▸ hlt
    have h2 : i < items2.size := hsz ▸ h1
    rw [List.drop_eq_getElem_cons hlt] at hz
    injection hz with hyx hrest
    have hy : y = items[i] := by have := congrArg Prod.fst hyx; simpa using this
    have hx : x = items2[i] := by have := congrArg Prod.snd hyx; simpa using this
    subst hy hx
    refine wpAny_bind (he i h1 h2 _ _ ?_)
    wp_walk
    exact ⟨rfl, rfl, i + 1, hrest⟩
  case fin =>
    rintro ⟨b1, b2⟩ s' ⟨hb', rfl, i, hz⟩
    simp only at hb'
    subst hb'
    wp_walk
    refine ⟨_, rfl, ?_, ?_⟩
    · exact fun x => nomatch x
    · simpa [Builtin.Tuple.tupleCompareSizes, hsz] using hq
  case h =>
    exact ⟨rfl, rfl, 0, rfl⟩

open AutoSeq1 (wpAny_loadPart') in
open MeetsSeq MeetsSeq2 MeetsSeq3 SeqRoads2 in
theorem list_loopT {A : Around} {l b : Addr} {items items2 : Array Value} {n n2 : Nat} {dd dd2 : Option Addr} {sl sl2 : Array (Option Value)}
    (ho : s.heap.get? l = some { cls := .type "list", dict := dd, data := .seq items n, slots := sl }) (ho2 : s.heap.get? b = some { cls := .type "list", dict := dd2, data := .seq items2 n2, slots := sl2 })
    (hsz : items.size = items2.size) (he : ∀ j (h1 : j < items.size) (h2 : j < items2.size), EqT C A.in1 s items[j] items2[j]) (R : Result → Shared → Prop) (hR : R (.ok (.ret (.bool true))) s) :
    ∀ (k i : Nat), items.size - i = k → wpAny (model C.prog C.w) A.in1 (Builtin.«list.__eq__.loop» ⟨[.ref l, .ref b, rawInt i, rawInt 2], []⟩)
      (fun fin s' => match fin with | .done f => R (.ok f) s' | .again c' => c'.quiet = true ∧ codeAny (model C.prog C.w) A c' R s') (fun e s' => R (.error e) s') s := by
  intro k
  induction k with
  | zero =>
    intro i hk
    obtain ⟨hp, g, d, tk, os⟩ := s
    wp_walk using wpAny_loadPart' ho, wpAny_loadPart' ho2
    have hi1 : items[((i : Nat) : Int).toNat]? = none := by simp; omega
    have hi2 : items2[((i : Nat) : Int).toNat]? = none := by simp; omega
    rw [hi1, hi2]
    wp_walk using wpAny_loadPart' ho, wpAny_loadPart' ho2
    show R (.ok (.ret (.bool (items.size == items2.size)))) _
    rw [hsz]
    simpa using hR
  | succ k ih =>
    intro i hk
    obtain ⟨hp, g, d, tk, os⟩ := s
    wp_walk using wpAny_loadPart' ho, wpAny_loadPart' ho2
    have hlt : i < items.size := by omega
    have hlt2 : i < items2.size := by omega
    have hi1 : items[((i : Nat) : Int).toNat]? = some items[i] := by simp [hlt]
    have hi2 : items2[((i : Nat) : Int).toNat]? = some items2[i] := by simp [hlt2]
    have hc : ((i : Int) + 1) = ((i + 1 : Nat) : Int) := by push_cast; rfl
    rw [hi1, hi2]
    refine wpAny_bind (he i hlt hlt2 _ _ ?_)
    wp_walk
    rw [hc]
    exact ⟨plainId_quiet plain_eq_loop _, codeAny_builtin entry_eq_loop (by
      rw [Around.under_plainId plain_eq_loop _]
      exact ih (i + 1) (by omega))⟩

open AutoSeq1 (wpAny_loadPart') in
open MeetsSeq MeetsSeq2 MeetsSeq3 SeqRoads2 in
theorem list_eqT {A : Around} {l b : Addr} {items items2 : Array Value} (hl : s.heap.IsList l items) (hb : s.heap.IsList b items2) (hsz : items.size = items2.size) (hu : A.units < cLine)
    (he : ∀ j (h1 : j < items.size) (h2 : j < items2.size), EqT C A.in1 s items[j] items2[j]) : RcT C A s (.ref l) (.ref b) := fun E Q hq => by
  obtain ⟨⟨cls, dd, data, sl⟩, ho, hc, n, hd⟩ := id hl
  obtain ⟨⟨cls2, dd2, data2, sl2⟩, ho2, hc2, n2, hd2⟩ := id hb
  simp only at hc hd hc2 hd2
  subst hc hd hc2 hd2
  refine wpAny_richCompare_same_room (op := .Eq) (T := "list") ⟨_, ho, rfl⟩ ⟨_, ho2, rfl⟩ F.slot_list_eq
    (call_meetsIn F.slot_list_eq (T := "list") ⟨_, ho, rfl⟩ F.entry_list_eq (F.args_list_eq_2 _ _) (S := fun A' R' s' => A' = A ∧ s' = s ∧ R' (.ok (.ret (.bool true))) s) ?_ ⟨rfl, rfl, show Value.bool true ≠ Value.notImplemented ∧ Q (.bool true) s from ⟨(fun x => nomatch x), hq⟩⟩) hu
  rintro A' R' s' ⟨rfl, rfl, hR⟩
  have loop := list_loopT (C := C) ho ho2 hsz he R' hR items.size 0 rfl
  obtain ⟨hp, g, d, tk, os⟩ := s'
  have f3 := AutoSeq1.sub_list_list
  have hne : ¬ (items.size != items2.size) = true := by simp [hsz]
  wp_walk using wpAny_loadPart' ho, wpAny_loadPart' ho2
  exact ⟨plainId_quiet plain_eq_loop _, codeAny_builtin entry_eq_loop (by
    rw [Around.under_plainId plain_eq_loop _]
    exact loop)⟩

theorem nodup_eq : ∀ {l : List (Str × D)}, (l.map (·.1)).Nodup → ∀ {k : Str} {d d' : D}, (k, d) ∈ l → (k, d') ∈ l → d = d'
  | (k0, d0) :: l, hn, k, d, d', h1, h2 => by
    rw [List.map_cons, List.nodup_cons] at hn
    rcases List.mem_cons.mp h1 with e1 | h1 <;> rcases List.mem_cons.mp h2 with e2 | h2
    · cases e1; cases e2; rfl
    · cases e1; exact absurd (List.mem_map_of_mem (f := (·.1)) h2) hn.1
    · cases e2; exact absurd (List.mem_map_of_mem (f := (·.1)) h1) hn.1
    · exact nodup_eq hn.2 h1 h2

theorem eqT_deep : ∀ (n : Nat) (d : D), deepD n d = true → ∀ (A : Around) (v v' : Value), Base C G s → Rep C G v d → Rep C G v' d → A.units + n + 1 < cLine → EqT C A s v v' := by
  intro n
  induction n with
  | zero =>
    intro d hd A v v' B r r' hu
    refine .of_at (eqAt_flat 0 d ?_ A v v' B r r' (by omega))
    cases d <;> first | rfl | cases hd
  | succ n ih =>
    intro d hd A v v' B r r' hu
    cases d with
    | int i => exact .of_at (eqAt_flat 0 _ rfl A v v' B r r' (by omega))
    | bool b => exact .of_at (eqAt_flat 0 _ rfl A v v' B r r' (by omega))
    | str x => exact .of_at (eqAt_flat 0 _ rfl A v v' B r r' (by omega))
    | tup l =>
      have hd' : ∀ x ∈ l, deepD n x = true := List.all_eq_true.mp hd
      obtain ⟨a, rfl⟩ := r.tup_ref
      obtain ⟨b, rfl⟩ := r'.tup_ref
      obtain ⟨vs, h1, p1⟩ := r.isTup B
      obtain ⟨ws, h2, p2⟩ := r'.isTup B
      by_cases hab : a = b
      · subst hab; exact .of_at (.same _)
      · refine .of_refs hab (tuple_eqT h1 h2 (by rw [List.size_toArray, List.size_toArray, p1.length, p2.length]) (by omega) fun j q1 q2 => ?_)
        obtain ⟨x, hx, k1⟩ := p1.get' (i := j) (v := vs.toArray[j]) (by rw [← List.getElem?_toArray]; exact Array.getElem?_eq_getElem q1)
        obtain ⟨y, hy, k2⟩ := p2.get' (i := j) (v := ws.toArray[j]) (by rw [← List.getElem?_toArray]; exact Array.getElem?_eq_getElem q2)
        rw [hx] at hy; cases hy
        exact ih x (hd' x (List.mem_of_getElem? hx)) A.in1 _ _ B k1 k2 (by show A.units + 1 + n + 1 < cLine; omega)
    | lst l =>
      have hd' : ∀ x ∈ l, deepD n x = true := List.all_eq_true.mp hd
      obtain ⟨a, rfl⟩ := r.lst_ref
      obtain ⟨b, rfl⟩ := r'.lst_ref
      obtain ⟨vs, h1, p1⟩ := r.isList B
      obtain ⟨ws, h2, p2⟩ := r'.isList B
      by_cases hab : a = b
      · subst hab; exact .of_at (.same _)
      · refine .of_refs hab (list_eqT h1 h2 (by rw [List.size_toArray, List.size_toArray, p1.length, p2.length]) (by omega) fun j q1 q2 => ?_)
        obtain ⟨x, hx, k1⟩ := p1.get' (i := j) (v := vs.toArray[j]) (by rw [← List.getElem?_toArray]; exact Array.getElem?_eq_getElem q1)
        obtain ⟨y, hy, k2⟩ := p2.get' (i := j) (v := ws.toArray[j]) (by rw [← List.getElem?_toArray]; exact Array.getElem?_eq_getElem q2)
        rw [hx] at hy; cases hy
        exact ih x (hd' x (List.mem_of_getElem? hx)) A.in1 _ _ B k1 k2 (by show A.units + 1 + n + 1 < cLine; omega)
    | dct l =>
      have hd' : ∀ p ∈ l, flatD n p.2 = true := List.all_eq_true.mp hd
      obtain ⟨a, rfl⟩ := r.dct_ref
      obtain ⟨b, rfl⟩ := r'.dct_ref
      obtain ⟨ka, h1, m1, p1⟩ := r.isDict B
      obtain ⟨kb, h2, m2, p2⟩ := r'.isDict B
      by_cases hab : a = b
      · subst hab; exact .of_at (.same _)
      · refine .of_refs hab fun E Q hq => ?_
        have nd : (kb.map (·.1)).Nodup := by obtain ⟨_, _, _, _, _, _, _, _, hn⟩ := h2; exact hn
        have hits : ∀ (l' : List (Str × D)) (ka' : List (Str × Value)), RepE C G ka' l' → (∀ p ∈ l', p ∈ l) → KeqHits A.in1 s kb ka' true := by
          intro l'
          induction l' with
          | nil => intro ka' h _; cases h; exact .nil
          | cons q r ihl =>
            intro ka' h hs
            cases h with
            | cons hv hr =>
              rename_i k v kvs d
              have hmem : (k, d) ∈ l := hs _ (.head _)
              rcases p2.at k with ⟨_, e2⟩ | ⟨v', d', e1, e2, e3⟩
              · exfalso
                unfold dget at e2
                rw [Option.map_eq_none_iff, List.find?_eq_none] at e2
                exact e2 _ hmem (by simp)
              · have hdd : d' = d := by
                  have nd' : (l.map (·.1)).Nodup := p2.keys ▸ nd
                  unfold dget at e2
                  obtain ⟨⟨k', d''⟩, hf, rfl⟩ := Option.map_eq_some_iff.mp e2
                  have hk' : k' = k := by simpa using List.find?_some hf
                  subst hk'
                  have hm2 := List.mem_of_find?_eq_some hf
                  exact nodup_eq nd' hm2 hmem
                subst hdd
                exact .hit e1 (eqAt_flat n d' (hd' _ hmem) A.in1 v v' B hv e3 (by show A.units + 1 + n < cLine; omega)) (ihl _ hr fun p hp => hs p (.tail _ hp))
        have hlen : ka.length = kb.length := by rw [p1.length, p2.length]
        have := keq_eq (prog := C.prog) (w := C.w) (A := A) (E := E) (s := s) (r := true) (Q := Q) m1 m2 h1 h2 (by omega) (fun _ => hits l ka p1 fun _ h => h) (by rw [hlen]; simpa using hq)
        exact this
end
end Mine

/-! part 6 -/
namespace Mine
section
variable {C : Cx} {n : Nat} {S : Sig} {ρ : Rho} {pos p : Pos} {G : GMap} {s : Shared}

def isCmp : D → Bool | .tup _ | .lst _ | .int _ => true | _ => false
/-- the rich compare of equal deep data -/
theorem rcT_deep {k : Nat} {d : D} (hd : deepD k d = true) {A : Around} {v v' : Value} (B : Base C G s) (r : Rep C G v d) (r' : Rep C G v' d) (hu : A.units + k + 1 < cLine) (hk : isCmp d = true) : RcT C A s v v' := by
  cases d with
  | int i => cases r with | int _ t => cases r' with | int _ t' => exact fun E Q hq => by have := eq_int (prog := C.prog) (w := C.w) (A := A) (E := E) (s := s) (Q := Q) (a := i) (b := i) (t := t) (u := t') (by rw [beq_self_eq_true]; exact hq); exact this
  | bool b => cases hk
  | str x => cases hk
  | dct l => cases hk
  | tup l =>
    cases k with
    | zero => cases hd
    | succ k =>
      have hd' : ∀ x ∈ l, deepD k x = true := List.all_eq_true.mp hd
      obtain ⟨a, rfl⟩ := r.tup_ref
      obtain ⟨b, rfl⟩ := r'.tup_ref
      obtain ⟨vs, h1, p1⟩ := r.isTup B
      obtain ⟨ws, h2, p2⟩ := r'.isTup B
      refine tuple_eqT h1 h2 (by rw [List.size_toArray, List.size_toArray, p1.length, p2.length]) (by omega) fun j q1 q2 => ?_
      obtain ⟨x, hx, k1⟩ := p1.get' (i := j) (v := vs.toArray[j]) (by rw [← List.getElem?_toArray]; exact Array.getElem?_eq_getElem q1)
      obtain ⟨y, hy, k2⟩ := p2.get' (i := j) (v := ws.toArray[j]) (by rw [← List.getElem?_toArray]; exact Array.getElem?_eq_getElem q2)
      rw [hx] at hy; cases hy
      exact eqT_deep k x (hd' x (List.mem_of_getElem? hx)) A.in1 _ _ B k1 k2 (by show A.units + 1 + k + 1 < cLine; omega)
  | lst l =>
    cases k with
    | zero => cases hd
    | succ k =>
      have hd' : ∀ x ∈ l, deepD k x = true := List.all_eq_true.mp hd
      obtain ⟨a, rfl⟩ := r.lst_ref
      obtain ⟨b, rfl⟩ := r'.lst_ref
      obtain ⟨vs, h1, p1⟩ := r.isList B
      obtain ⟨ws, h2, p2⟩ := r'.isList B
      refine list_eqT h1 h2 (by rw [List.size_toArray, List.size_toArray, p1.length, p2.length]) (by omega) fun j q1 q2 => ?_
      obtain ⟨x, hx, k1⟩ := p1.get' (i := j) (v := vs.toArray[j]) (by rw [← List.getElem?_toArray]; exact Array.getElem?_eq_getElem q1)
      obtain ⟨y, hy, k2⟩ := p2.get' (i := j) (v := ws.toArray[j]) (by rw [← List.getElem?_toArray]; exact Array.getElem?_eq_getElem q2)
      rw [hx] at hy; cases hy
      exact eqT_deep k x (hd' x (List.mem_of_getElem? hx)) A.in1 _ _ B k1 k2 (by show A.units + 1 + k + 1 < cLine; omega)

theorem ev_eq {l r : Expr} {d : D} {k : Nat} (hd : deepD k d = true) (hk : k ≤ 20) (hm : isCmp d = true) (h1 : Ev C n S ρ l d) (h2 : Ev C n S ρ r d)
    (hb : behindInMarks .Eq r = false) : Ev C n S ρ (.Compare l [.Eq] [r] pos) (.bool true) := by
  intro env A mu G s hA B X
  refine wpAny_Compare1 (wpAny_mono (h1 env A mu G s hA B X) (fun v1 s1 ⟨G1, g1, B1, r1⟩ => ?_) fun _ _ e => e) hb
  refine wpAny_mono (h2 env A mu G1 s1 hA B1 (X.grow g1)) (fun v2 s2 ⟨G2, g2, B2, r2⟩ => ?_) fun _ _ e => e
  show wpAny _ _ (richCompare .Eq v1 v2) _ _ _
  exact rcT_deep hd B2 (r1.grow g2) r2 (by have := hA.2.2; omega) hm _ _ ⟨G2, g1.trans g2, B2, .bool true⟩

/-- dict views -/
def EvD (C : Cx) (n : Nat) (S : Sig) (ρ : Rho) (e : Expr) (l : List (Str × D)) : Prop :=
  ∀ env A mu G s, Room A n → Base C G s → EnvOk C S env mu ρ G s.heap →
    wpAny (model C.prog C.w) A (eval e env) (fun v s' => ∃ G', GrS C [] G s G' s' ∧ Base C G' s' ∧ ∃ a kvs, v = .ref a ∧ a ≠ C.P ∧ s'.heap.DictOf (strKind C.prog C.w) a kvs ∧ (a == sysModules) = false ∧ RepE C G' kvs l) NoE s

theorem ne_P (B : Base C G s) {a : Addr} {o : Obj} (h : G a = some o) : a ≠ C.P := by rintro rfl; rw [B.noP] at h; cases h

theorem EvD.of {e : Expr} {l : List (Str × D)} (h : Ev C n S ρ e (.dct l)) : EvD C n S ρ e l := by
  intro env A mu G s hA B X
  refine wpAny_mono (h env A mu G s hA B X) (fun v s1 ⟨G1, g1, B1, r1⟩ => ?_) fun _ _ e => e
  obtain ⟨a, rfl⟩ := r1.dct_ref
  obtain ⟨kvs, h1, h2, h3⟩ := r1.isDict B1
  refine ⟨G1, g1, B1, a, kvs, rfl, ?_, h1, h2, h3⟩
  cases r1 with
  | dct h _ _ _ => exact ne_P B1 h

theorem ev_own_ref {env : Env} {A : Around} {mu : List Addr} {x : Str} {l : List (Str × D)} (X : EnvOk C S env mu ρ G s.heap) (h : ρ.lookup x = some (.own l)) (hd : (x == ("__debug__" : Str)) = false) (hc : (x == ("__classdict__" : Str)) = false)
    {Q : Value → Shared → Prop} {E : Value → Shared → Prop}
    (q : ∀ a, a ∈ mu → a ≠ env.locals → (a == sysModules) = false → (∃ o kvs, s.heap.get? a = some o ∧ o.IsDictOf (strKind C.prog C.w) kvs ∧ RepE C G kvs l) → VarIs env s.heap x (.ref a) → Q (.ref a) s) : wpAny (model C.prog C.w) A (eval (.Name x pos) env) Q E s := by
  obtain ⟨a, hv, q1, q2, q3, q4⟩ := X.vars x _ h
  have q := q a q1 q2 q3 q4 hv
  refine wpAny_Name ?_ hd
  unfold VarIs at hv
  cases hk : env.kindOf x with
  | none => rw [hk] at hv; exact hv.elim
  | some k =>
    rw [hk] at hv
    cases k with
    | «local» => obtain ⟨m, hn, hm⟩ := hv; exact wpAny_loadName_local X.fn hk hn hm q
    | cell => obtain ⟨c, e, hi⟩ := hv; exact wpAny_loadName_cell X.fn hk e hi q
    | free => obtain ⟨c, e, hi⟩ := hv; exact wpAny_loadName_free X.fn hk e hi q hc
    | globalExplicit => exact hv.elim
    | globalImplicit => exact hv.elim

theorem EvD.own {x : Str} {l : List (Str × D)} (h : ρ.lookup x = some (.own l)) (hd : (x == ("__debug__" : Str)) = false := by decide) (hc : (x == ("__classdict__" : Str)) = false := by decide) :
    EvD C n S ρ (.Name x pos) l := by
  intro env A mu G s hA B X
  refine ev_own_ref X h hd hc fun a hm _ hsm ⟨o, kvs, ho, hD, hr⟩ _ => ?_
  exact ⟨G, .refl C [] G s, B, a, kvs, rfl, (X.muOk a hm).2.1, Heap.dictOf_iff.mpr ⟨o, ho, hD⟩, hsm, hr⟩

theorem dget_isSome {l : List (Str × D)} {k : Str} : (dget l k).isSome = l.any (fun kv => kv.1 = k) := by
  unfold dget
  induction l with
  | nil => rfl
  | cons x l ih =>
    rw [List.any_cons, List.find?_cons]
    by_cases h : x.1 = k
    · simp [h]
    · simp [h]; simpa using ih

theorem RepE.isSome {kvs : List (Str × Value)} {l : List (Str × D)} (h : RepE C G kvs l) (k : Str) : (valueAt kvs k).isSome = (dget l k).isSome := by
  rcases h.at k with ⟨h1, h2⟩ | ⟨v, d, h1, h2, _⟩ <;> rw [h1, h2] <;> rfl

theorem ev_in {l r : Expr} {k : Str} {ds : List (Str × D)} (h1 : Ev C n S ρ l (.str k)) (h2 : EvD C n S ρ r ds) (hb : behindInMarks .In r = false) : Ev C n S ρ (.Compare l [.In] [r] pos) (.bool (dget ds k).isSome) := by
  intro env A mu G s hA B X
  refine wpAny_Compare1 (wpAny_mono (h1 env A mu G s hA B X) (fun v1 s1 ⟨G1, g1, B1, r1⟩ => ?_) fun _ _ e => e) hb
  refine wpAny_mono (h2 env A mu G1 s1 hA B1 (X.grow g1)) (fun v2 s2 ⟨G2, g2, B2, a, kvs, e, hP, hD, hsm, r2⟩ => ?_) fun _ _ e => e
  subst e
  cases r1
  refine wpAny_in_of (strKind_is C.prog C.w k _) hsm hD.mapOf ?_
  rw [r2.isSome]
  exact ⟨G2, g1.trans (g2.trans (.tok C [] G2 s2 _)), B2.tok _, .bool _⟩
theorem ev_notin {l r : Expr} {k : Str} {ds : List (Str × D)} (h1 : Ev C n S ρ l (.str k)) (h2 : EvD C n S ρ r ds) (hb : behindInMarks .NotIn r = false) : Ev C n S ρ (.Compare l [.NotIn] [r] pos) (.bool (!(dget ds k).isSome)) := by
  intro env A mu G s hA B X
  refine wpAny_Compare1 (wpAny_mono (h1 env A mu G s hA B X) (fun v1 s1 ⟨G1, g1, B1, r1⟩ => ?_) fun _ _ e => e) hb
  refine wpAny_mono (h2 env A mu G1 s1 hA B1 (X.grow g1)) (fun v2 s2 ⟨G2, g2, B2, a, kvs, e, hP, hD, hsm, r2⟩ => ?_) fun _ _ e => e
  subst e
  cases r1
  refine wpAny_notIn_of (strKind_is C.prog C.w k _) hsm hD.mapOf ?_
  rw [r2.isSome]
  exact ⟨G2, g1.trans (g2.trans (.tok C [] G2 s2 _)), B2.tok _, .bool _⟩

/-- a dict's item, the dict frozen or own -/
theorem ev_subD {value slice : Expr} {l : List (Str × D)} {k : Str} {d : D} (h1 : EvD C n S ρ value l) (h2 : Ev C n S ρ slice (.str k)) (hx : dget l k = some d) (hs : ∀ o i, subscripted slice false o i = operate [o, i] (getItem o i)) :
    Ev C n S ρ (.Subscript value slice pos) d := by
  intro env A mu G s hA B X
  refine Subscript_ (wpAny_mono (h1 env A mu G s hA B X) (fun v1 s1 ⟨G1, g1, B1, a, kvs, e, hP, hD, hsm, r1⟩ => ?_) fun _ _ e => e)
  subst e
  refine wpAny_mono (h2 env A mu G1 s1 hA B1 (X.grow g1)) (fun v2 s2 ⟨G2, g2, B2, r2⟩ => ?_) fun _ _ e => e
  cases r2
  obtain ⟨o, ho, hDo⟩ := Heap.dictOf_iff.mp hD
  have hD2 : s2.heap.DictOf (strKind C.prog C.w) a kvs := Heap.dictOf_iff.mpr ⟨o, g2.keep a o (fun h => nomatch h) hP ho, hDo⟩
  rcases r1.at k with ⟨_, e2⟩ | ⟨v, d', e1, e2, e3⟩
  · rw [hx] at e2; cases e2
  · rw [hx] at e2; cases e2
    exact tail_any hD2.typeIs slot_dict_getitem.lookup (wpAny_getItem_of (strKind_is C.prog C.w k _) hD2.mapOf e1 ⟨G2, g1.trans (g2.trans (.tok C [] G2 s2 _)), B2.tok _, e3.grow g2⟩) (hs _ _)

/-- tests -/
theorem tst_bool {e : Expr} {b : Bool} (h : Ev C n S ρ e (.bool b)) (he : ∀ env whole, isTrue e env whole = (do let v ← whole; standAt e.pos; holding [v] (truthy v))) : Tst C n S ρ e b := by
  intro env A mu G s hA B X
  refine wpAny_isTrue_value (wpAny_mono (h env A mu G s hA B X) (fun v1 s1 ⟨G1, g1, B1, r1⟩ => ?_) fun _ _ e => e) (he _ _)
  cases r1
  exact wpAny_truthy_bool ⟨rfl, G1, g1, B1⟩
theorem tst_int {e : Expr} {i : Int} (h : Ev C n S ρ e (.int i)) (he : ∀ env whole, isTrue e env whole = (do let v ← whole; standAt e.pos; holding [v] (truthy v))) : Tst C n S ρ e (i != 0) := by
  intro env A mu G s hA B X
  refine wpAny_isTrue_value (wpAny_mono (h env A mu G s hA B X) (fun v1 s1 ⟨G1, g1, B1, r1⟩ => ?_) fun _ _ e => e) (he _ _)
  cases r1
  exact PyProof.Rows.truthy_int ⟨rfl, G1, g1, B1⟩
theorem tst_in {l r : Expr} {k : Str} {ds : List (Str × D)} (h1 : Ev C n S ρ l (.str k)) (h2 : EvD C n S ρ r ds) (hb : behindInMarks .In r = false) : Tst C n S ρ (.Compare l [.In] [r] pos) (dget ds k).isSome := by
  intro env A mu G s hA B X
  refine wpAny_isTrue_Compare1 (wpAny_mono (h1 env A mu G s hA B X) (fun v1 s1 ⟨G1, g1, B1, r1⟩ => ?_) fun _ _ e => e) hb
  refine wpAny_mono (h2 env A mu G1 s1 hA B1 (X.grow g1)) (fun v2 s2 ⟨G2, g2, B2, a, kvs, e, hP, hD, hsm, r2⟩ => ?_) fun _ _ e => e
  subst e
  cases r1
  refine wpAny_in_of (strKind_is C.prog C.w k _) hsm hD.mapOf (wpAny_truthy_bool ?_)
  exact ⟨r2.isSome k, G2, g1.trans (g2.trans (.tok C [] G2 s2 _)), B2.tok _⟩
theorem tst_notin {l r : Expr} {k : Str} {ds : List (Str × D)} (h1 : Ev C n S ρ l (.str k)) (h2 : EvD C n S ρ r ds) (hb : behindInMarks .NotIn r = false) : Tst C n S ρ (.Compare l [.NotIn] [r] pos) (!(dget ds k).isSome) := by
  intro env A mu G s hA B X
  refine wpAny_isTrue_Compare1 (wpAny_mono (h1 env A mu G s hA B X) (fun v1 s1 ⟨G1, g1, B1, r1⟩ => ?_) fun _ _ e => e) hb
  refine wpAny_mono (h2 env A mu G1 s1 hA B1 (X.grow g1)) (fun v2 s2 ⟨G2, g2, B2, a, kvs, e, hP, hD, hsm, r2⟩ => ?_) fun _ _ e => e
  subst e
  cases r1
  refine wpAny_notIn_of (strKind_is C.prog C.w k _) hsm hD.mapOf (wpAny_truthy_bool ?_)
  exact ⟨by rw [r2.isSome k], G2, g1.trans (g2.trans (.tok C [] G2 s2 _)), B2.tok _⟩

inductive TstAnd (C : Cx) (n : Nat) (S : Sig) (ρ : Rho) : List Expr → Bool → Prop
  | nil : TstAnd C n S ρ [] true
  | stop {e : Expr} {es : List Expr} : Tst C n S ρ e false → TstAnd C n S ρ (e :: es) false
  | go {e : Expr} {es : List Expr} {b : Bool} : Tst C n S ρ e true → TstAnd C n S ρ es b → TstAnd C n S ρ (e :: es) b
theorem tst_and {es : List Expr} {b : Bool} (h : TstAnd C n S ρ es b) : Tst C n S ρ (.BoolOp .And es pos) b := by
  intro env A mu G s hA B X
  refine wpAny_isTrue_BoolOp ?_
  induction h generalizing G s with
  | nil => exact wpAny_allTrue_And_nil ⟨rfl, G, .refl C [] G s, B⟩
  | stop h =>
    refine wpAny_allTrue_And_cons (wpAny_mono (h env A mu G s hA B X) (fun b s1 ⟨e, G1, g1, B1⟩ => ?_) fun _ _ e => e)
    subst e
    exact ⟨rfl, G1, g1, B1⟩
  | go h hr ih =>
    refine wpAny_allTrue_And_cons (wpAny_mono (h env A mu G s hA B X) (fun b s1 ⟨e, G1, g1, B1⟩ => ?_) fun _ _ e => e)
    subst e
    exact wpAny_mono (ih G1 s1 B1 (X.grow g1)) (fun b s2 ⟨e, G2, g2, B2⟩ => ⟨e, G2, g1.trans g2, B2⟩) fun _ _ e => e

inductive EvTrues (C : Cx) (n : Nat) (S : Sig) (ρ : Rho) : List Expr → Prop
  | one {e : Expr} : Ev C n S ρ e (.bool true) → EvTrues C n S ρ [e]
  | cons {e e2 : Expr} {es : List Expr} : Ev C n S ρ e (.bool true) → EvTrues C n S ρ (e2 :: es) → EvTrues C n S ρ (e :: e2 :: es)
theorem ev_and {es : List Expr} (h : EvTrues C n S ρ es) : Ev C n S ρ (.BoolOp .And es pos) (.bool true) := by
  intro env A mu G s hA B X
  rw [arm_eval_BoolOp]
  induction h generalizing G s with
  | one h => exact h env A mu G s hA B X
  | cons h hr ih =>
    show wpAny _ _ (eval _ env >>= fun v => _) _ _ s
    refine wpAny_bind (wpAny_mono (h env A mu G s hA B X) (fun v s1 ⟨G1, g1, B1, r1⟩ => ?_) fun _ _ e => e)
    cases r1
    refine wpAny_bind (wpAny_standAt (wpAny_bind (wpAny_holding (wpAny_truthy_bool ?_))))
    exact wpAny_mono (ih G1 s1 B1 (X.grow g1)) (fun b s2 ⟨G2, g2, B2, r2⟩ => ⟨G2, g1.trans g2, B2, r2⟩) fun _ _ e => e

/-- global names and calls -/
def NameV (C : Cx) (S : Sig) (e : Expr) (f : Value) : Prop :=
  ∀ env A mu ρ G s (Q E : Value → Shared → Prop), Base C G s → EnvOk C S env mu ρ G s.heap → Q f s → wpAny (model C.prog C.w) A (eval e env) Q E s
theorem nameV_builtin (K : Cok C) {x : Str} {f : Value} (hS : S.lookup x = some .globalImplicit) (hg : C.mg x = none) (hb : C.mb x = some f) (hd : (x == ("__debug__" : Str)) = false := by decide) : NameV C S (.Name x pos) f := by
  intro env A mu ρ G s Q E B X q
  exact Name_function_global X.fn ((X.kind x).trans hS) (loadGlobal_builtin (by rw [X.glob]; exact B.ns K.g K.gP) hg (by rw [X.blt]; exact B.ns K.b K.bP) hb q) hd
theorem nameV_global (K : Cok C) {x : Str} {f : Value} (hS : S.lookup x = some .globalImplicit) (hg : C.mg x = some f) (hd : (x == ("__debug__" : Str)) = false := by decide) : NameV C S (.Name x pos) f := by
  intro env A mu ρ G s Q E B X q
  exact Name_function_global X.fn ((X.kind x).trans hS) (loadGlobal_global (by rw [X.glob]; exact B.ns K.g K.gP) hg q) hd

/-- what a callable does with its arguments -/
def FnOk (C : Cx) (n : Nat) (f : Value) (ds : List D) (d : D) : Prop :=
  ∀ A G s vs, Room A n → Base C G s → RepL C G vs ds → wpAny (model C.prog C.w) A (call f vs) (Post C G s d) NoE s

inductive Callable (C : Cx) : Value → Prop
  | blt {id : String} : Callable C (.builtin id)
  | typ {T : String} : Callable C (.type T)
  | fn {a : Addr} {o : Obj} {fd : FuncData} : C.h.get? a = some o → a ≠ C.P → o.data = .func fd → Callable C (.ref a)

theorem callWith_any {A : Around} {f : Value} {x : Sem Value} {rest : List (Bool × Sem Value)} {Q E : Value → Shared → Prop} (hf : Callable C f) (hp : ((false, x) :: rest).any (·.1) = false)
    (h : wpAny (model C.prog C.w) A (spliced ((false, x) :: rest)) (fun vs s1 => (∃ G1, Base C G1 s1) ∧ wpAny (model C.prog C.w) A (call f vs) Q E s1) E s) :
    wpAny (model C.prog C.w) A (callWith pos f [] ((false, x) :: rest) []) Q E s := by
  cases hf with
  | blt => exact PySem.Calls.callWith_builtin hp (evalArgs_plain (wpAny_mono h (fun vs s1 h1 => h1.2) fun _ _ e => e))
  | typ => exact PyProof.Rows.callWith_type hp (evalArgs_plain (wpAny_mono h (fun vs s1 h1 => h1.2) fun _ _ e => e))
  | fn ho hne hd => exact PySem.Calls.callWith_function (evalArgs_plain (wpAny_mono h (fun vs s1 ⟨⟨G1, B1⟩, h2⟩ => ⟨⟨B1.sat _ _ (B1.top _ _ hne ho), hd⟩, h2⟩) fun _ _ e => e))

theorem EvL.plain {es : List Expr} {ds : List D} (h : EvL C n S ρ es ds) (env : Env) : (backTo pos (starEach es env)).any (·.1) = false := by
  induction h with
  | nil => rfl
  | cons hst _ _ ih =>
    rw [hst env]
    show (false || (backTo pos (starEach _ env)).any (·.1)) = false
    rw [ih]; rfl

theorem ev_call {x : Str} {np : Pos} {f : Value} {a : Expr} {as : List Expr} {ds : List D} {d : D} (hn : NameV C S (.Name x np) f) (hc : Callable C f) (ha : EvL C n S ρ (a :: as) ds) (hf : FnOk C n f ds d) :
    Ev C n S ρ (.Call (.Name x np) (a :: as) [] pos) d := by
  intro env A mu G s hA B X
  refine wpAny_Call_NameR (hn env A mu ρ G s _ _ B X ?_)
  have hpl := ha.plain (pos := pos) env
  have hsp := spliced_evl (pos := pos) ha env A mu G s hA B X
  cases ha with
  | cons hst he hes =>
    rw [hst env] at hpl hsp ⊢
    refine callWith_any (s := s) hc hpl (wpAny_mono hsp (fun vs s1 ⟨G1, g1, B1, r1⟩ => ⟨⟨G1, B1⟩, ?_⟩) fun _ _ e => e)
    exact wpAny_mono (hf A G1 s1 vs hA B1 r1) (fun v s2 ⟨G2, g2, B2, r2⟩ => ⟨G2, g1.trans g2, B2, r2⟩) fun _ _ e => e

/-- isinstance(e, T) -/
def isStrD : D → Option Bool
  | .str _ => some true
  | .tup _ => some false
  | _ => none
def isTupD : D → Option Bool
  | .str _ => some false
  | .int _ => some false
  | .tup _ => some true
  | _ => none
theorem ev_isinstance {x y : Str} {np np2 : Pos} {e : Expr} {T : String} {d : D} {b : Bool} (hn : NameV C S (.Name x np) (.builtin "isinstance")) (hy : NameV C S (.Name y np2) (.type T)) (he : Ev C n S ρ e d)
    (hst : ∀ env, starEach [e, .Name y np2] env = (false, eval e env) :: starEach [.Name y np2] env) (hT : (T = "str" ∧ isStrD d = some b) ∨ (T = "tuple" ∧ isTupD d = some b)) :
    Ev C n S ρ (.Call (.Name x np) [e, .Name y np2] [] pos) (.bool b) := by
  intro env A mu G s hA B X
  refine wpAny_Call_NameR (hn env A mu ρ G s _ _ B X ?_)
  rw [hst env]
  refine callWith_any (C := C) (s := s) .blt rfl (spliced_cons (wpAny_mono (he env A mu G s hA B X) (fun v s1 ⟨G1, g1, B1, r1⟩ => ?_) fun _ _ e => e))
  refine spliced_cons (hy env A mu ρ G1 s1 _ _ B1 (X.grow g1) (spliced_nil ⟨⟨G1, B1⟩, ?_⟩))
  have q1 : ∀ b, Post C G s (.bool b) (.bool b) s1 := fun b => ⟨G1, g1, B1, .bool b⟩
  have q2 : ∀ b, Post C G s (.bool b) (.bool b) { s1 with toks := s1.toks + 1 } := fun b => ⟨G1, g1.trans (.tok C [] G1 s1 _), B1.tok _, .bool b⟩
  rcases hT with ⟨rfl, hb⟩ | ⟨rfl, hb⟩
  · cases r1 <;> cases hb
    · exact IsiPair.str_str (q1 _)
    · exact IsiPair.tuple_str (B1.sat _ _ (by assumption)) (by assumption) (q2 _)
  · cases r1 <;> cases hb
    · exact IsiPair.int_tuple (q2 _)
    · exact IsiPair.str_tuple (q2 _)
    · exact IsiPair.tuple_tuple (B1.sat _ _ (by assumption)) (by assumption) (q1 _)

/-- len -/
theorem fn_len_lst {ds : List D} (hsz : ds.length ≤ 1000) : FnOk C n (.builtin "len") [.lst ds] (.int ds.length) := by
  intro A G s vs hA B r
  obtain ⟨v, vs', rfl, r1, r2⟩ := r.inv
  obtain rfl := r2.inv0
  obtain ⟨a, rfl⟩ := r1.lst_ref
  obtain ⟨vs, hl, hr⟩ := r1.isList B
  refine call_len_list hl (by rw [List.size_toArray, hr.length]; omega) ?_
  rw [List.size_toArray, hr.length]
  exact Post.tok B (.int _ _)
theorem fn_len_tup {ds : List D} (hsz : ds.length ≤ 1000) : FnOk C n (.builtin "len") [.tup ds] (.int ds.length) := by
  intro A G s vs hA B r
  obtain ⟨v, vs', rfl, r1, r2⟩ := r.inv
  obtain rfl := r2.inv0
  obtain ⟨a, rfl⟩ := r1.tup_ref
  obtain ⟨vs, hl, hr⟩ := r1.isTup B
  refine PyProof.Rows.len_tuple hl (by rw [List.size_toArray, hr.length]; omega) ?_
  rw [List.size_toArray, hr.length]
  exact Post.tok B (.int _ _)
/-- tuple of a list -/
theorem fn_tuple_lst (K : Cok C) {ds : List D} (hsz : ds.length ≤ 1000) : FnOk C n (.type "tuple") [.lst ds] (.tup ds) := by
  intro A G s vs hA B r
  obtain ⟨v, vs', rfl, r1, r2⟩ := r.inv
  obtain rfl := r2.inv0
  obtain ⟨a, rfl⟩ := r1.lst_ref
  obtain ⟨vs, hl, hr⟩ := r1.isList B
  refine call_tuple_list hl (fun h' hk => ?_) (by rw [List.size_toArray, hr.length, sizeLine_eq]; omega)
  refine post_alloc (tk := s.toks) K B (a := h'.objs.size) (o := { cls := .type "tuple", data := .seq vs.toArray }) ?_ (fun b o e => Heap.get?_push_of_some _ (hk b o e)) (Heap.get?_push_size _ rfl) fun G' hs hg => .tup hg rfl rfl (hr.mono hs)
  cases q : s.heap.get? h'.objs.size with
  | none => rfl
  | some o => have := hk _ _ q; rw [get_size] at this; cases this
end
end Mine

/-! part 7 -/
namespace Mine
section
variable {C : Cx} {n : Nat} {S : Sig} {ρ : Rho} {pos p : Pos} {G : GMap} {s : Shared} {env : Env} {mu : List Addr}

theorem Base.set (K : Cok C) (B : Base C G s) {a : Addr} (ha : G a = none) (hP : a ≠ C.P) {h' : Heap} {tk : Nat} (hs : Heap.SameBut a s.heap h') : Base C G { s with heap := h', toks := tk } :=
  ⟨fun b o e => hs.extBut b o (by rintro rfl; rw [ha] at e; cases e) (B.sat b o e), B.top, B.noP, K.tabLocal _ _ B.tab fun o e => hs.extBut _ o (Ne.symm hP) e, B.gens⟩
theorem GrS.set (C : Cx) (G : GMap) (s : Shared) {a : Addr} {h' : Heap} {tk : Nat} (hs : Heap.SameBut a s.heap h') : GrS C [a] G s G { s with heap := h', toks := tk } :=
  ⟨fun b o hb _ e => hs.extBut b o (fun q => hb (by rw [q]; exact List.mem_cons_self)) e, rfl, fun _ _ e => e, fun _ _ e => .inl e, id⟩

theorem cell_ns_apart {h : Heap} {c L : Addr} {v : Option Value} {m : Str → Option Value} (hc : h.IsCell c v) (hn : h.Ns L m) : c ≠ L := by
  rintro rfl
  obtain ⟨o, ho, hd⟩ := hc
  obtain ⟨o', es, ep, ho', hd', _⟩ := hn
  rw [ho] at ho'; cases ho'; rw [hd] at hd'; cases hd'
theorem dict_cell_apart {h : Heap} {c a : Addr} {v : Option Value} {o : Obj} {kvs : List (Str × Value)} (hc : h.IsCell c v) (ho : h.get? a = some o) (hd : o.IsDictOf (strKind C.prog C.w) kvs) : a ≠ c := by
  rintro rfl
  obtain ⟨o', ho', hd'⟩ := hc
  rw [ho] at ho'; cases ho'
  obtain ⟨es, ep, _, hdd, _⟩ := hd
  rw [hd'] at hdd; cases hdd

/-- a name of one's own is bound -/
theorem store_var (K : Cok C) (B : Base C G s) (X : EnvOk C S env mu ρ G s.heap) {A : Around} {x : Str} (hS : S.lookup x = some .local ∨ S.lookup x = some .cell) {v : Value} {Q : Unit → Shared → Prop} {E : Value → Shared → Prop}
    (hQ : ∀ a s', (a = env.locals ∨ env.cells.lookup x = some a) → (S.lookup x = some .local → a = env.locals) → (S.lookup x = some .cell → env.cells.lookup x = some a) → GrS C [a] G s G s' → Base C G s' →
      (∀ d, Rep C G v d → EnvOk C S env mu ((x, .v d) :: ρ) G s'.heap) → (∀ y b, y ≠ x → ρ.lookup y = some b → BdOk C env mu G s'.heap y b) → VarIs env s'.heap x v → EnvOk C S env mu [] G s'.heap → Q () s') :
    wpAny (model C.prog C.w) A (storeName env x v) Q E s := by
  have mk : ∀ a s', a ∈ mu → (∃ o, s'.heap.get? a = some o) → GrS C [a] G s G s' → (∃ m, s'.heap.Ns env.locals m) → (∀ y c, env.cells.lookup y = some c → ∃ v, s'.heap.IsCell c v) →
      (∀ y b, y ≠ x → ρ.lookup y = some b → BdOk C env mu G s'.heap y b) → VarIs env s'.heap x v → EnvOk C S env mu [] G s'.heap ∧ ∀ d, Rep C G v d → EnvOk C S env mu ((x, .v d) :: ρ) G s'.heap := by
    intro a s' ham hal hg hns hcl hoth hx
    have e0 : EnvOk C S env mu [] G s'.heap := by
      refine ⟨X.fn, X.names, X.glob, X.blt, hns, X.locMu, fun y c hc => ⟨hcl y c hc, (X.cells y c hc).2⟩, X.has, X.inj, fun b hb => ?_, (fun y b hb => nomatch hb), X.code⟩
      obtain ⟨h1, h2, o, h3⟩ := X.muOk b hb
      refine ⟨h1, h2, ?_⟩
      by_cases q : b = a
      · rw [q]; exact hal
      · exact ⟨o, hg.keep b o (fun h => q (List.mem_singleton.mp h)) h2 h3⟩
    refine ⟨e0, fun d hd => { e0 with vars := fun y b hb => ?_ }⟩
    rw [List.lookup_cons] at hb
    by_cases q : y = x
    · subst q
      rw [beq_self_eq_true] at hb
      cases hb
      exact ⟨v, hx, hd⟩
    · have q' : (y == x) = false := by simpa using q
      rw [q'] at hb
      exact hoth y b q hb
  rcases hS with hl | hl
  · obtain ⟨m, hn⟩ := X.ns
    have hk := (X.kind x).trans hl
    refine wpAny_storeName_local hk hn (fun h' hn' hs' => ?_) (by rw [X.fn]; rfl)
    obtain ⟨h1, h2, o1, h3⟩ := X.muOk _ X.locMu
    have hg := GrS.set C G s (tk := s.toks + 1) hs'
    have hcell : ∀ y c v, env.cells.lookup y = some c → s.heap.IsCell c v → h'.IsCell c v := fun y c v hc hv => hv.sameBut hs' (cell_ns_apart hv hn)
    have hv : VarIs env h' x v := by unfold VarIs; rw [hk]; exact ⟨_, hn', by simp⟩
    have hoth : ∀ y b, y ≠ x → ρ.lookup y = some b → BdOk C env mu G h' y b := by
      intro y b hy hb
      have hvar : ∀ v, VarIs env s.heap y v → VarIs env h' y v := by
        intro v hv
        unfold VarIs at hv ⊢
        cases hky : env.kindOf y with
        | none => rw [hky] at hv; exact hv
        | some k =>
          rw [hky] at hv
          cases k with
          | «local» =>
            obtain ⟨m2, hn2, hm2⟩ := hv
            refine ⟨_, hn', ?_⟩
            rw [if_neg hy]
            rw [← hm2]
            obtain ⟨o, es, ep, ho, hd, hsk, hf⟩ := hn
            obtain ⟨o', es', ep', ho', hd', hsk', hf'⟩ := hn2
            rw [ho] at ho'; cases ho'; rw [hd] at hd'; cases hd'
            rw [← hf, ← hf']
          | cell => obtain ⟨c, e, hi⟩ := hv; exact ⟨c, e, hcell y c _ e hi⟩
          | free => obtain ⟨c, e, hi⟩ := hv; exact ⟨c, e, hcell y c _ e hi⟩
          | globalExplicit => exact hv
          | globalImplicit => exact hv
      have hb' := X.vars y b hb
      cases b with
      | v d => obtain ⟨v, hv, hr⟩ := hb'; exact ⟨v, hvar _ hv, hr⟩
      | own l =>
        obtain ⟨a, hv, hm, hl, hsm, o, kvs, ho, hd, hr⟩ := hb'
        exact ⟨a, hvar _ hv, hm, hl, hsm, o, kvs, hs'.extBut a o hl ho, hd, hr⟩
    obtain ⟨e0, e1⟩ := mk env.locals { s with heap := h', toks := s.toks + 1 } X.locMu (let ⟨o, _, _, ho, _⟩ := hn'; ⟨o, ho⟩) hg ⟨_, hn'⟩ (fun y c hc => let ⟨⟨v, hv⟩, _⟩ := X.cells y c hc; ⟨v, hcell y c v hc hv⟩) hoth hv
    exact hQ env.locals _ (.inl rfl) (fun _ => rfl) (fun h => by rw [hl] at h; cases h) hg (B.set K h1 h2 hs') e1 hoth hv e0
  · obtain ⟨c, hc⟩ := X.has x (.inl hl)
    obtain ⟨⟨v0, hv0⟩, hcm⟩ := X.cells x c hc
    have hk := (X.kind x).trans hl
    refine wpAny_storeName_cell X.fn hk hc hv0 fun h' hc' hs' => ?_
    obtain ⟨h1, h2, o1, h3⟩ := X.muOk _ hcm
    have hg := GrS.set C G s (tk := s.toks) hs'
    obtain ⟨m, hn⟩ := X.ns
    have hne := cell_ns_apart hv0 hn
    have hn' : h'.Ns env.locals m := hn.sameBut hs' (Ne.symm hne)
    have hcell : ∀ y c2 v, y ≠ x → env.cells.lookup y = some c2 → s.heap.IsCell c2 v → h'.IsCell c2 v := fun y c2 v hy hc2 hv => hv.sameBut hs' fun e => hy (X.inj y x c (e ▸ hc2) hc)
    have hv : VarIs env h' x v := by unfold VarIs; rw [hk]; exact ⟨c, hc, hc'⟩
    have hoth : ∀ y b, y ≠ x → ρ.lookup y = some b → BdOk C env mu G h' y b := by
      intro y b hy hb
      have hvar : ∀ v, VarIs env s.heap y v → VarIs env h' y v := by
        intro v hv
        unfold VarIs at hv ⊢
        cases hky : env.kindOf y with
        | none => rw [hky] at hv; exact hv
        | some k =>
          rw [hky] at hv
          cases k with
          | «local» => obtain ⟨m2, hn2, hm2⟩ := hv; exact ⟨m2, hn2.sameBut hs' (Ne.symm hne), hm2⟩
          | cell => obtain ⟨c2, e, hi⟩ := hv; exact ⟨c2, e, hcell y c2 _ hy e hi⟩
          | free => obtain ⟨c2, e, hi⟩ := hv; exact ⟨c2, e, hcell y c2 _ hy e hi⟩
          | globalExplicit => exact hv
          | globalImplicit => exact hv
      have hb' := X.vars y b hb
      cases b with
      | v d => obtain ⟨v, hv, hr⟩ := hb'; exact ⟨v, hvar _ hv, hr⟩
      | own l =>
        obtain ⟨a, hv, hm, hl2, hsm, o, kvs, ho, hd, hr⟩ := hb'
        exact ⟨a, hvar _ hv, hm, hl2, hsm, o, kvs, hs'.extBut a o (dict_cell_apart hv0 ho hd) ho, hd, hr⟩
    obtain ⟨e0, e1⟩ := mk c { s with heap := h' } hcm (let ⟨o, ho, _⟩ := hc'; ⟨o, ho⟩) hg ⟨_, hn'⟩ (fun y c2 hc2 => by
      by_cases q : y = x
      · subst q; rw [hc] at hc2; cases hc2; exact ⟨_, hc'⟩
      · obtain ⟨⟨v, hv⟩, _⟩ := X.cells y c2 hc2; exact ⟨v, hcell y c2 v q hc2 hv⟩) hoth hv
    exact hQ c _ (.inr hc) (fun h => by rw [hl] at h; cases h) (fun _ => hc) hg (B.set K h1 h2 hs') e1 hoth hv e0
end
end Mine

/-! part 8 -/
namespace Mine

/-- from this heap on, `it` gives xs -/
def ItAt (C : Cx) (G : GMap) (h : Heap) (it : Value) (wr : List Addr) (xs : List D) : Prop :=
  ∃ I fp n P St i, it = .ref I ∧ (∀ A : Around, A.handled = none → Walks C.prog C.w A I fp wr n P St) ∧ St i h ∧ i + xs.length = n ∧ (∀ b ∈ fp, b ≠ C.P ∧ (b ∈ wr ∨ ∃ o, G b = some o)) ∧ (∀ b ∈ wr, G b = none) ∧
    (∀ i h, St i h → ∀ b ∈ fp, ∃ o, h.get? b = some o) ∧ (∀ j v, j < xs.length → P (i + j) v → ∃ d, xs[j]? = some d ∧ Rep C G v d)

section
variable {C : Cx} {n : Nat} {S : Sig} {ρ : Rho} {pos p : Pos} {G : GMap} {s : Shared} {env : Env} {mu wr : List Addr}

theorem ItAt.next (K : Cok C) {A : Around} {it : Value} {d : D} {ds : List D} {Q : Option Value → Shared → Prop} {E : Value → Shared → Prop} (hh : A.handled = none) (B : Base C G s) (x : ItAt C G s.heap it wr (d :: ds))
    (hQ : ∀ v s', GrS C wr G s G s' → Base C G s' → Rep C G v d → ItAt C G s'.heap it wr ds → Q (some v) s') : wpAny (model C.prog C.w) A (pyNext it) Q E s := by
  obtain ⟨I, fp, n, P, St, i, rfl, W, hst, hn, hfp, hwr, hal, hP⟩ := x
  refine (W A hh).item i s Q E (by rw [List.length_cons] at hn; omega) hst fun v h' tk hv hst' hk => ?_
  obtain ⟨d', hd, hr⟩ := hP 0 v (Nat.succ_pos _) hv
  have hd' : d' = d := by simpa using hd.symm
  subst hd'
  have hg : GrS C wr G s G { s with heap := h', toks := tk } := ⟨fun b o hb _ e => hk b o hb e, rfl, fun _ _ e => e, fun _ _ e => .inl e, id⟩
  have hPw : C.P ∉ wr := fun h => (hfp _ ((W A hh).sub _ h)).1 rfl
  refine hQ v _ hg ⟨fun b o e => hk b o (fun h => by rw [hwr b h] at e; cases e) (B.sat b o e), B.top, B.noP, K.tabLocal _ _ B.tab fun o e => hk _ o hPw e, B.gens⟩ hr
    ⟨I, fp, n, P, St, i + 1, rfl, W, hst', by rw [List.length_cons] at hn; omega, hfp, hwr, hal, fun j v hj hv => ?_⟩
  obtain ⟨d2, h2, h3⟩ := hP (j + 1) v (Nat.succ_lt_succ hj) (by rwa [show i + (j + 1) = i + 1 + j by omega])
  exact ⟨d2, by simpa using h2, h3⟩

theorem ItAt.done (K : Cok C) {A : Around} {it : Value} {Q : Option Value → Shared → Prop} {E : Value → Shared → Prop} (hh : A.handled = none) (B : Base C G s) (x : ItAt C G s.heap it wr [])
    (hQ : ∀ s', GrS C wr G s G s' → Base C G s' → Q none s') : wpAny (model C.prog C.w) A (pyNext it) Q E s := by
  obtain ⟨I, fp, n, P, St, i, rfl, W, hst, hn, hfp, hwr, hal, hP⟩ := x
  have hi : i = n := by simpa using hn
  subst hi
  refine (W A hh).done s Q E hst fun h' tk hk => ?_
  have hPw : C.P ∉ wr := fun h => (hfp _ ((W A hh).sub _ h)).1 rfl
  exact hQ _ ⟨fun b o hb _ e => hk b o hb e, rfl, fun _ _ e => e, fun _ _ e => .inl e, id⟩
    ⟨fun b o e => hk b o (fun h => by rw [hwr b h] at e; cases e) (B.sat b o e), B.top, B.noP, K.tabLocal _ _ B.tab fun o e => hk _ o hPw e, B.gens⟩

theorem ItAt.self {A : Around} {it : Value} {xs : List D} {Q : Value → Shared → Prop} {E : Value → Shared → Prop} (hh : A.handled = none) (x : ItAt C G s.heap it wr xs) (hQ : Q it s) : wpAny (model C.prog C.w) A (pyIter it) Q E s := by
  obtain ⟨I, fp, n, P, St, i, rfl, W, hst, hn, hfp, hwr, hal, hP⟩ := x
  exact (W A hh).self i s Q E hst hQ

theorem ItAt.grow {nu : List Addr} {G' : GMap} {s' : Shared} {it : Value} {xs : List D} (x : ItAt C G s.heap it wr xs) (g : GrS C nu G s G' s') (h1 : ∀ b ∈ wr, b ∉ nu) (h2 : ∀ a ∈ nu, G a = none) : ItAt C G' s'.heap it wr xs := by
  obtain ⟨I, fp, n, P, St, i, rfl, W, hst, hn, hfp, hwr, hal, hP⟩ := x
  have hkeep : ∀ b ∈ fp, ∀ o, s.heap.get? b = some o → s'.heap.get? b = some o := fun b hb o e => g.keep b o (fun hm => by
    rcases (hfp b hb).2 with q | ⟨p, q⟩
    · exact h1 b q hm
    · rw [h2 b hm] at q; cases q) (hfp b hb).1 e
  have hsub := (W { handled := none } rfl).sub
  refine ⟨I, fp, n, P, St, i, rfl, W, (W { handled := none } rfl).frame i _ _ hst hkeep, hn, fun b hb => ⟨(hfp b hb).1, (hfp b hb).2.imp id fun ⟨o, e⟩ => ⟨o, g.sub _ _ e⟩⟩, fun b hb => ?_, hal, fun j v hj hv => ?_⟩
  · cases e : G' b with
    | none => rfl
    | some o =>
      rcases g.dom b o e with q | q | q
      · rw [hwr b hb] at q; cases q
      · obtain ⟨o', ho'⟩ := hal i _ hst b (hsub b hb); rw [ho'] at q; cases q
      · exact absurd q (h1 b hb)
  · obtain ⟨d, hd, hr⟩ := hP j v hj hv
    exact ⟨d, hd, hr.grow g⟩

def It (C : Cx) (n : Nat) (S : Sig) (ρ : Rho) (e : Expr) (xs : List D) : Prop :=
  ∀ env A mu G s, Room A n → Base C G s → EnvOk C S env mu ρ G s.heap →
    wpAny (model C.prog C.w) A (eval e env) (fun v s1 => wpAny (model C.prog C.w) A (pyIter v) (fun it s2 => ∃ G2 wr, GrS C [] G s G2 s2 ∧ Base C G2 s2 ∧ ItAt C G2 s2.heap it wr xs ∧ ∀ b ∈ wr, s.heap.get? b = none) NoE s1) NoE s

/-- a new iterator over frozen things -/
theorem iter_new (K : Cok C) (B : Base C G s) {o : Obj} {wrx : List Addr} {St : Nat → Heap → Prop} {P : Nat → Value → Prop} {k : Nat} {xs : List D} {more : List Addr} {tk : Nat} (hf : o.isFreed = false)
    (W : ∀ A : Around, A.handled = none → Walks C.prog C.w A s.heap.objs.size (s.heap.objs.size :: more) [s.heap.objs.size] k P St) (hst : St 0 (s.heap.push o)) (hk : xs.length = k)
    (hmore : ∀ b ∈ more, ∃ o, G b = some o) (hal : ∀ i h, St i h → ∀ b ∈ s.heap.objs.size :: more, ∃ o, h.get? b = some o) (hP : ∀ j v, j < xs.length → P j v → ∃ d, xs[j]? = some d ∧ Rep C G v d) :
    ∃ G2 wr, GrS C [] G s G2 { s with heap := s.heap.push o, toks := tk } ∧ Base C G2 { s with heap := s.heap.push o, toks := tk } ∧ ItAt C G2 (s.heap.push o) (.ref s.heap.objs.size) wr xs ∧ ∀ b ∈ wr, s.heap.get? b = none := by
  have hN := get_size s.heap
  obtain ⟨g, B'⟩ := grown_none K.tabLocal B (tk := tk) (h' := s.heap.push o) fun _ _ e => Heap.get?_push_of_some _ e
  refine ⟨G, [s.heap.objs.size], g, B', ⟨_, _, k, P, St, 0, rfl, W, hst, by omega, fun b hb => ?_, fun b hb => ?_, hal, fun j v hj hv => ?_⟩, fun b hb => ?_⟩
  · rcases List.mem_cons.mp hb with rfl | hb
    · refine ⟨?_, .inl List.mem_cons_self⟩
      obtain ⟨q, hq⟩ := K.tabP _ B.tab
      intro e; rw [e, hq] at hN; cases hN
    · obtain ⟨o', ho'⟩ := hmore b hb
      exact ⟨ne_P B ho', .inr ⟨o', ho'⟩⟩
  · rw [List.mem_singleton.mp hb]; exact B.fresh hN
  · exact hP j v hj (by rwa [Nat.zero_add] at hv)
  · rw [List.mem_singleton.mp hb]; exact hN

def IterOk (C : Cx) (d : D) (xs : List D) : Prop := ∀ A G s v, A.handled = none → Base C G s → Rep C G v d →
  wpAny (model C.prog C.w) A (pyIter v) (fun it s2 => ∃ G2 wr, GrS C [] G s G2 s2 ∧ Base C G2 s2 ∧ ItAt C G2 s2.heap it wr xs ∧ ∀ b ∈ wr, s.heap.get? b = none) NoE s

theorem none_back (K : Cok C) {G1 : GMap} {s1 : Shared} (B1 : Base C G1 s1) (g : GrS C [] G s G1 s1) {b : Addr} (h : s1.heap.get? b = none) : s.heap.get? b = none := by
  cases q : s.heap.get? b with
  | none => rfl
  | some o =>
    by_cases hP : b = C.P
    · obtain ⟨o', ho'⟩ := K.tabP _ B1.tab
      rw [hP, ho'] at h; cases h
    · have := g.keep b o (fun h => nomatch h) hP q
      rw [h] at this; cases this
theorem It.of (K : Cok C) {e : Expr} {d : D} {xs : List D} (h : Ev C n S ρ e d) (hi : IterOk C d xs) : It C n S ρ e xs := by
  intro env A mu G s hA B X
  refine wpAny_mono (h env A mu G s hA B X) (fun v s1 ⟨G1, g1, B1, r1⟩ => ?_) fun _ _ e => e
  exact wpAny_mono (hi A G1 s1 v hA.1 B1 r1) (fun it s2 ⟨G2, wr, g2, B2, x, hf⟩ => ⟨G2, wr, g1.trans g2, B2, x, fun b hb => none_back K B1 g1 (hf b hb)⟩) fun _ _ e => e

theorem ne_new (B : Base C G s) {a : Addr} {o : Obj} (h : G a = some o) : a ≠ s.heap.objs.size := Nat.ne_of_lt (Heap.lt_size (B.sat a o h))

theorem iter_lst (K : Cok C) {xs : List D} : IterOk C (.lst xs) xs := by
  intro A G s v hh B r
  obtain ⟨a, rfl⟩ := r.lst_ref
  have hG : ∃ o, G a = some o := by cases r with | lst h _ _ _ => exact ⟨_, h⟩
  obtain ⟨vs, hl, hr⟩ := r.isList B
  obtain ⟨o, ho⟩ := hG
  refine wpAny_pyIter_list hl ?_
  exact iter_new (wrx := []) (tk := s.toks) K B rfl (fun A hA => Walks.list hA _ a (ne_new B ho) vs.toArray) ⟨⟨_, Heap.get?_push_size _ rfl, rfl, rfl⟩, hl.push _⟩ (by rw [List.size_toArray, hr.length])
    (fun b hb => by rw [List.mem_singleton.mp hb]; exact ⟨o, ho⟩)
    (fun i h hst b hb => by
      rcases List.mem_cons.mp hb with rfl | hb
      · obtain ⟨o, ho, _⟩ := hst.1; exact ⟨o, ho⟩
      · rw [List.mem_singleton.mp hb]; obtain ⟨o, ho, _⟩ := hst.2; exact ⟨o, ho⟩)
    (fun j v _ hv => hr.get' (by simpa using hv))
theorem iter_tup (K : Cok C) {xs : List D} : IterOk C (.tup xs) xs := by
  intro A G s v hh B r
  obtain ⟨a, rfl⟩ := r.tup_ref
  have hG : ∃ o, G a = some o := by cases r with | tup h _ _ _ => exact ⟨_, h⟩
  obtain ⟨vs, hl, hr⟩ := r.isTup B
  obtain ⟨o, ho⟩ := hG
  have hl' : s.heap.IsTuple a vs.toArray := hl
  refine wpAny_pyIter_tuple hl' ?_
  exact iter_new (wrx := []) (tk := s.toks) K B rfl (fun A hA => Walks.tuple hA _ a (ne_new B ho) vs.toArray) ⟨⟨_, Heap.get?_push_size _ rfl, rfl, rfl⟩, by obtain ⟨o, ho, r⟩ := hl'; exact ⟨o, Heap.get?_push_of_some _ ho, r⟩⟩ (by rw [List.size_toArray, hr.length])
    (fun b hb => by rw [List.mem_singleton.mp hb]; exact ⟨o, ho⟩)
    (fun i h hst b hb => by
      rcases List.mem_cons.mp hb with rfl | hb
      · obtain ⟨o, ho, _⟩ := hst.1; exact ⟨o, ho⟩
      · rw [List.mem_singleton.mp hb]; obtain ⟨o, ho, _⟩ := hst.2; exact ⟨o, ho⟩)
    (fun j v _ hv => hr.get' (by simpa using hv))

/-- the signs of a text -/
def signs (x : Str) : List D := x.cps.toList.map fun c => .str ⟨#[c]⟩
theorem iter_str (K : Cok C) {x : Str} : IterOk C (.str x) (signs x) := by
  intro A G s v hh B r
  cases r with
  | str _ t =>
  have hP : ∀ j v, j < (signs x).length → SignAt x j v → ∃ d, (signs x)[j]? = some d ∧ Rep C G v d := fun j v _ ⟨c, u, hc, hv⟩ => ⟨.str ⟨#[c]⟩, by unfold signs; rw [List.getElem?_map, Array.getElem?_toList, hc]; rfl, by rw [hv]; exact .str _ _⟩
  have hlen : (signs x).length = x.cps.size := by unfold signs; simp
  cases ha : x.cps.all (· < 128)
  · refine wpAny_pyIter_wide ha ?_
    exact iter_new (wrx := []) (more := []) (tk := s.toks) K B rfl (fun A hA => Walks.strWide hA _ x t) ⟨_, Heap.get?_push_size _ rfl, rfl, rfl⟩ hlen (fun b hb => nomatch hb)
      (fun i h hst b hb => by rw [List.mem_singleton.mp hb]; obtain ⟨o, ho, _⟩ := hst; exact ⟨o, ho⟩) hP
  · refine wpAny_pyIter_ascii ha ?_
    exact iter_new (wrx := []) (more := []) (tk := s.toks) K B rfl (fun A hA => Walks.strAscii hA _ x t) ⟨_, Heap.get?_push_size _ rfl, rfl, rfl⟩ hlen (fun b hb => nomatch hb)
      (fun i h hst b hb => by rw [List.mem_singleton.mp hb]; obtain ⟨o, ho, _⟩ := hst; exact ⟨o, ho⟩) hP

theorem RepE.getE : ∀ {kvs : List (Str × Value)} {l : List (Str × D)}, RepE C G kvs l → ∀ {j : Nat} {k : Str} {v : Value}, kvs[j]? = some (k, v) → ∃ d, l[j]? = some (k, d) ∧ Rep C G v d
  | _, _, .nil, j, k, v, e => by simp at e
  | _, _, .cons h hr, 0, k, v, e => by simp at e; obtain ⟨rfl, rfl⟩ := e; exact ⟨_, rfl, h⟩
  | _, _, .cons h hr, j + 1, k, v, e => by
    obtain ⟨d, hd, q⟩ := RepE.getE hr (j := j) (by simpa using e)
    exact ⟨d, by simpa using hd, q⟩

def keysD (l : List (Str × D)) : List D := l.map fun p => .str p.1
theorem iter_dct (K : Cok C) {l : List (Str × D)} : IterOk C (.dct l) (keysD l) := by
  intro A G s v hh B r
  obtain ⟨a, rfl⟩ := r.dct_ref
  have hG : ∃ o, G a = some o := by cases r with | dct h _ _ _ => exact ⟨_, h⟩
  obtain ⟨kvs, hl, hsm, hr⟩ := r.isDict B
  obtain ⟨o, ho⟩ := hG
  obtain ⟨ep, hat⟩ := hl.dictAt
  refine wpAny_pyIter_dict hsm hat ?_
  exact iter_new (wrx := []) (tk := s.toks) K B rfl (fun A hA => Walks.dictKeys hA _ a (ne_new B ho) kvs ep) ⟨⟨_, Heap.get?_push_size _ rfl, rfl, rfl⟩, hat.push _⟩ (by unfold keysD; rw [List.length_map, hr.length])
    (fun b hb => by rw [List.mem_singleton.mp hb]; exact ⟨o, ho⟩)
    (fun i h hst b hb => by
      rcases List.mem_cons.mp hb with rfl | hb
      · obtain ⟨o, ho, _⟩ := hst.1; exact ⟨o, ho⟩
      · rw [List.mem_singleton.mp hb]; obtain ⟨o, es, ho, _⟩ := hst.2; exact ⟨o, ho⟩)
    (fun j v _ ⟨k, x, hx, hk⟩ => by
      obtain ⟨d, hd, hrd⟩ := hr.getE hx
      obtain ⟨t, rfl⟩ : ∃ t, v = .str k t := Value.isStrOf_shape hk
      exact ⟨.str k, by unfold keysD; rw [List.getElem?_map, hd]; rfl, .str _ _⟩)

/-- range(e) -/
def nums (k : Nat) : List D := (List.range k).map fun (i : Nat) => D.int (i : Int)
theorem it_range (K : Cok C) {np : Pos} {e : Expr} {k : Nat} (hn : NameV C S (.Name (Str.ofString "range") np) (.type "range")) (he : Ev C n S ρ e (.int k)) (hk : k ≤ 1000) (hst : ∀ env, starEach [e] env = (false, eval e env) :: starEach [] env) :
    It C n S ρ (.Call (.Name (Str.ofString "range") np) [e] [] pos) (nums k) := by
  intro env A mu G s hA B X
  refine wpAny_Call_NameR (hn env A mu ρ G s _ _ B X ?_)
  rw [hst env]
  refine callWith_any (C := C) (s := s) .typ rfl (spliced_cons (wpAny_mono (he env A mu G s hA B X) (fun v s1 ⟨G1, g1, B1, r1⟩ => ?_) fun _ _ e => e))
  refine spliced_nil ⟨⟨G1, B1⟩, ?_⟩
  cases r1 with
  | int _ tN =>
  refine call_range_1 ?_
  refine wpAny_pyIter_range (IsRange.new ..) (small_one (by decide) (by decide) (by omega) (by omega)) ?_
  have hsz : Builtin.Range.rangeSize 0 (k : Int) 1 = (k : Int) := by rw [rangeSize_one]; split <;> omega
  rw [hsz]
  obtain ⟨g2, B2⟩ := grown_none K.tabLocal B1 (tk := s1.toks + 1 + 1) (h' := s1.heap.push { cls := .type "range", data := .fields #[.int 0 s1.toks, .int k tN, .int 1 (s1.toks + 1)] }) fun _ _ e => Heap.get?_push_of_some _ e
  obtain ⟨G3, wr, g3, B3, x, hf⟩ := iter_new (wrx := []) (more := []) (xs := nums k) (k := k) (tk := s1.toks + 1 + 1) K B2 (o := { cls := .type "range_iterator", data := .fields #[rawInt 0, rawInt k, rawInt 1] }) rfl (fun A hA => Walks.range hA _ 0 1 k)
    (by
      have e1 : (0 + ((0 : Nat) : Int) * 1) = 0 := by simp
      have e2 : ((k : Int) - ((0 : Nat) : Int)) = k := by simp
      rw [e1, e2]
      exact Heap.get?_push_size _ rfl) (by unfold nums; simp) (fun b hb => nomatch hb)
      (fun i h hst b hb => by rw [List.mem_singleton.mp hb]; exact ⟨_, hst⟩) (fun j v hj ⟨t, hv⟩ => by
        have hj' : j < k := by unfold nums at hj; simpa using hj
        refine ⟨.int j, by unfold nums; simp [hj'], ?_⟩
        rw [hv]; simp only [Int.zero_add, Int.mul_one]; exact .int _ _)
  exact ⟨G3, wr, g1.trans (g2.trans g3), B3, x, fun b hb => none_back K B2 (g1.trans g2) (hf b hb)⟩
end
end Mine

/-! part 9 -/
namespace Mine

/-- one turn of a comprehension's loop, by its parts -/
def TurnW (C : Cx) (A : Around) (e : Expr) (gens : List Comprehension) (emit : Env → (Shared → Prop) → Shared → Prop) (depth : Nat) (it acc : Value) (env : Env) (x : Str) (ifs : List Expr) (Q : Fin → Shared → Prop) (s : Shared) : Prop :=
  ifs.length ≤ 1 ∧ wpAny (model C.prog C.w) A (pyNext it) (fun r s1 => match r with
    | none => Q (.done .next) s1
    | some v => wpAny (model C.prog C.w) A (storeName env x v) (fun _ s2 =>
        wpAny (model C.prog C.w) A (match ifs with | [] => pure true | c :: _ => isTrue c env (eval c env)) (fun ok s3 => match ok with
          | false => Q (.again (.compLoop e depth it acc env)) s3
          | true => match gens[depth + 1]? with
            | none => emit env (fun s4 => Q (.again (.compLoop e depth it acc env)) s4) s3
            | some g => g.is_async = 0 ∧ (∀ x, foldedSetIterable g.iter env x = pure x) ∧ wpAny (model C.prog C.w) A (eval g.iter env) (fun v s4 => wpAny (model C.prog C.w) A (pyIter v) (fun it2 s5 =>
                wpAny (model C.prog C.w) A (runOwn (.compStart e (depth + 1) it2 acc env) env none) (fun _ s6 => Q (.again (.compLoop e depth it acc env)) s6) NoE s5) NoE s4) NoE s3) NoE s2) NoE s1) NoE s

section
variable {C : Cx} {n : Nat} {S : Sig} {ρ : Rho} {pos p : Pos} {G : GMap} {s : Shared} {env : Env} {mu wr : List Addr} {A : Around}

theorem tests_ok {ifs : List Expr} {Q : Bool → Shared → Prop} (hl : ifs.length ≤ 1) (h : wpAny (model C.prog C.w) A (match ifs with | [] => pure true | c :: _ => isTrue c env (eval c env)) Q NoE s) :
    wpAny (model C.prog C.w) A (forIn ifs true fun c r => if r = true then do let ok ← isTrue c env (eval c env); pure (ForInStep.yield ok) else pure (ForInStep.yield r)) Q NoE s := by
  match ifs, hl, h with
  | [], _, h => rw [List.forIn_nil]; exact h
  | [c], _, h => exact wpAny_tests_one h

def listEmit (C : Cx) (A : Around) (elt : Expr) (acc : Value) : Env → (Shared → Prop) → Shared → Prop := fun env Q s =>
  wpAny (model C.prog C.w) A (eval elt env) (fun v s1 => wpAny (model C.prog C.w) A (call (.builtin "list.append") [acc, v]) (fun _ s2 => Q s2) NoE s1) NoE s
def dictEmit (C : Cx) (A : Around) (kx vx : Expr) (d : Addr) : Env → (Shared → Prop) → Shared → Prop := fun env Q s =>
  wpAny (model C.prog C.w) A (eval kx env) (fun kv s1 => wpAny (model C.prog C.w) A (eval vx env) (fun vv s2 => wpAny (model C.prog C.w) A (dictSet d kv vv) (fun _ s3 => Q s3) NoE s2) NoE s1) NoE s

theorem turn_list {elt : Expr} {gens : List Comprehension} {scope : Scope} {depth : Nat} {it : Value} {acc : Value} {x : Str} {px : Pos} {iter : Expr} {ifs : List Expr} {Q : Fin → Shared → Prop}
    (hg : gens[depth]? = some ⟨.Name x px, iter, ifs, 0⟩) (h : TurnW C A (.ListComp elt gens scope pos) gens (listEmit C A elt acc) depth it acc env x ifs Q s) :
    wpAny (model C.prog C.w) A (compTurn (.ListComp elt gens scope pos) depth it acc env) Q NoE s := by
  obtain ⟨hl, h⟩ := h
  unfold compTurn
  dsimp only
  rw [hg]
  dsimp only
  refine wpAny_bind (wpAny_standAt (wpAny_bind (wpAny_mono h (fun r s1 h1 => ?_) fun _ _ e => e)))
  cases r with
  | none => exact wpAny_pure h1
  | some v =>
    refine wpAny_bind (wpAny_of_eq (show letOwnedTupleGo (.Name x px) it v = pure () from rfl) ?_)
    refine wpAny_bind (wpAny_assign_Name (wpAny_mono h1 (fun _ s2 h2 => ?_) fun _ _ e => e))
    refine wpAny_bind (wpAny_mono (tests_ok hl h2) (fun ok s3 h3 => ?_) fun _ _ e => e)
    cases ok with
    | false => exact wpAny_pure h3
    | true =>
      cases hg2 : gens[depth + 1]? with
      | none =>
        simp only [hg2] at h3 ⊢
        rw [if_pos trivial]
        refine wpAny_bind (wpAny_bind (wpAny_mono h3 (fun v s4 h4 => ?_) fun _ _ e => e))
        exact wpAny_bind (wpAny_mono h4 (fun _ s5 h5 => wpAny_pure (wpAny_pure h5)) fun _ _ e => e)
      | some g =>
        simp only [hg2] at h3 ⊢
        obtain ⟨ha, hf, h3⟩ := h3
        rw [if_pos trivial]
        refine wpAny_bind (wpAny_mono h3 (fun v s4 h4 => ?_) fun _ _ e => e)
        refine wpAny_bind (wpAny_standAt ?_)
        simp only [ha]
        refine wpAny_bind (wpAny_of_eq (hf v) ?_)
        refine wpAny_bind (wpAny_holding (wpAny_mono h4 (fun it2 s5 h5 => ?_) fun _ _ e => e))
        exact wpAny_bind (wpAny_mono h5 (fun _ s6 h6 => wpAny_pure h6) fun _ _ e => e)

theorem turn_dict {kx vx : Expr} {gens : List Comprehension} {scope : Scope} {depth : Nat} {it : Value} {d : Addr} {x : Str} {px : Pos} {iter : Expr} {ifs : List Expr} {Q : Fin → Shared → Prop}
    (hg : gens[depth]? = some ⟨.Name x px, iter, ifs, 0⟩) (h : TurnW C A (.DictComp kx vx gens scope pos) gens (dictEmit C A kx vx d) depth it (.ref d) env x ifs Q s) :
    wpAny (model C.prog C.w) A (compTurn (.DictComp kx vx gens scope pos) depth it (.ref d) env) Q NoE s := by
  obtain ⟨hl, h⟩ := h
  unfold compTurn
  dsimp only
  rw [hg]
  dsimp only
  refine wpAny_bind (wpAny_standAt (wpAny_bind (wpAny_mono h (fun r s1 h1 => ?_) fun _ _ e => e)))
  cases r with
  | none => exact wpAny_pure h1
  | some v =>
    refine wpAny_bind (wpAny_of_eq (show letOwnedTupleGo (.Name x px) it v = pure () from rfl) ?_)
    refine wpAny_bind (wpAny_assign_Name (wpAny_mono h1 (fun _ s2 h2 => ?_) fun _ _ e => e))
    refine wpAny_bind (wpAny_mono (tests_ok hl h2) (fun ok s3 h3 => ?_) fun _ _ e => e)
    cases ok with
    | false => exact wpAny_pure h3
    | true =>
      cases hg2 : gens[depth + 1]? with
      | none =>
        simp only [hg2] at h3 ⊢
        rw [if_pos trivial]
        refine wpAny_bind (wpAny_bind (wpAny_mono h3 (fun kv s4 h4 => ?_) fun _ _ e => e))
        refine wpAny_bind (wpAny_holding (wpAny_mono h4 (fun vv s5 h5 => ?_) fun _ _ e => e))
        exact wpAny_bind (wpAny_standAt (wpAny_holding (wpAny_mono h5 (fun _ s6 h6 => wpAny_pure h6) fun _ _ e => e)))
      | some g =>
        simp only [hg2] at h3 ⊢
        obtain ⟨ha, hf, h3⟩ := h3
        rw [if_pos trivial]
        refine wpAny_bind (wpAny_mono h3 (fun v s4 h4 => ?_) fun _ _ e => e)
        refine wpAny_bind (wpAny_standAt ?_)
        simp only [ha]
        refine wpAny_bind (wpAny_of_eq (hf v) ?_)
        refine wpAny_bind (wpAny_holding (wpAny_mono h4 (fun it2 s5 h5 => ?_) fun _ _ e => e))
        exact wpAny_bind (wpAny_mono h5 (fun _ s6 h6 => wpAny_pure h6) fun _ _ e => e)
end
end Mine

/-! part 10 -/
namespace Mine

theorem GrS.seq {C : Cx} {mu nu mu' : List Addr} {G G1 G2 : GMap} {s s1 s2 : Shared} (x : GrS C mu G s G1 s1) (y : GrS C nu G1 s1 G2 s2) (h : ∀ a ∈ nu, a ∈ mu' ∨ s.heap.get? a = none) (hm : ∀ a ∈ mu, a ∈ mu' ∨ s.heap.get? a = none) : GrS C mu' G s G2 s2 := by
  have nin : ∀ b o, b ∉ mu' → s.heap.get? b = some o → b ∉ mu ∧ b ∉ nu := fun b o hb e => ⟨fun q => (hm b q).elim hb fun q => (by rw [q] at e; cases e), fun q => (h b q).elim hb fun q => (by rw [q] at e; cases e)⟩
  refine ⟨fun b o hb hp e => y.keep b o (nin b o hb e).2 hp (x.keep b o (nin b o hb e).1 hp e), y.os.trans x.os, fun a o e => y.sub a o (x.sub a o e), fun a o e => ?_, fun q => y.noP (x.noP q)⟩
  rcases y.dom a o e with q | q | q
  · rcases x.dom a o q with q | q | q
    · exact .inl q
    · exact .inr (.inl q)
    · exact .inr ((hm a q).symm)
  · by_cases hmm : a ∈ mu'
    · exact .inr (.inr hmm)
    · cases q1 : s.heap.get? a with
      | none => exact .inr (.inl rfl)
      | some p =>
        by_cases hp : a = C.P
        · cases q2 : G C.P with
          | some r => exact .inl (by rw [hp, q2]; have := y.sub _ _ (x.sub _ _ q2); rw [← hp, e] at this; exact this.symm)
          | none => have := y.noP (x.noP q2); rw [← hp, e] at this; cases this
        · have := x.keep a p (nin a p hmm q1).1 hp q1; rw [q] at this; cases this
  · exact .inr ((h a q).symm)

inductive TstIf (C : Cx) (n : Nat) (S : Sig) (ρ : Rho) : List Expr → Bool → Prop
  | nil : TstIf C n S ρ [] true
  | one {c : Expr} {b : Bool} : Tst C n S ρ c b → TstIf C n S ρ [c] b

mutual
inductive CL (C : Cx) (n : Nat) (S : Sig) (own : List Str) {α : Type} (Em : Rho → α → Prop) : List Comprehension → Rho → List α → Prop
  | emit {ρ : Rho} {a : α} : Em ρ a → CL C n S own Em [] ρ [a]
  | clause {x : Str} {px : Pos} {iter : Expr} {ifs : List Expr} {gs : List Comprehension} {ρ : Rho} {xs : List D} {out : List α} : It C n S ρ iter xs → (∀ env v, foldedSetIterable iter env v = pure v) →
      (S.lookup x = some .local ∨ (S.lookup x = some .cell ∧ x ∈ own)) → ρ.lookup x = none → ifs.length ≤ 1 → CX C n S own Em x ifs gs ρ xs out → CL C n S own Em (⟨.Name x px, iter, ifs, 0⟩ :: gs) ρ out
inductive CX (C : Cx) (n : Nat) (S : Sig) (own : List Str) {α : Type} (Em : Rho → α → Prop) : Str → List Expr → List Comprehension → Rho → List D → List α → Prop
  | nil {x : Str} {ifs : List Expr} {gs : List Comprehension} {ρ : Rho} : CX C n S own Em x ifs gs ρ [] []
  | skip {x : Str} {ifs : List Expr} {gs : List Comprehension} {ρ : Rho} {d : D} {ds : List D} {out : List α} : TstIf C n S ((x, .v d) :: ρ) ifs false → CX C n S own Em x ifs gs ρ ds out → CX C n S own Em x ifs gs ρ (d :: ds) out
  | take {x : Str} {ifs : List Expr} {gs : List Comprehension} {ρ : Rho} {d : D} {ds : List D} {o1 o2 : List α} : TstIf C n S ((x, .v d) :: ρ) ifs true → CL C n S own Em gs ((x, .v d) :: ρ) o1 → CX C n S own Em x ifs gs ρ ds o2 →
      CX C n S own Em x ifs gs ρ (d :: ds) (o1 ++ o2)
end

structure CompKind (C : Cx) (e : Expr) (gens : List Comprehension) (acc : Value) (emitOf : Around → Env → (Shared → Prop) → Shared → Prop) : Prop where
  loop : ∀ (A : Around) (depth : Nat) (it : Value) (env : Env) (R : Result → Shared → Prop) (s : Shared),
    wpAny (model C.prog C.w) A (compTurn e depth it acc env) (fun fin s' => match fin with | .done f => R (.ok f) s' | .again c' => c'.quiet = true ∧ codeAny (model C.prog C.w) A c' R s') NoE s → codeAny (model C.prog C.w) A (.compLoop e depth it acc env) R s
  start : ∀ (A : Around) (depth : Nat) (it : Value) (env : Env) (R : Result → Shared → Prop) (s : Shared) (g : Comprehension), gens[depth]? = some g → g.is_async = 0 → codeAny (model C.prog C.w) A (.compLoop e depth it acc env) R s →
    wpAny (model C.prog C.w) A (pyIter it) (fun it2 s2 => codeAny (model C.prog C.w) A (.compLoop e depth it2 acc env) R s2) NoE s → codeAny (model C.prog C.w) A (.compStart e depth it acc env) R s
  turn : ∀ (A : Around) (depth : Nat) (it : Value) (env : Env) (x : Str) (px : Pos) (iter : Expr) (ifs : List Expr) (Q : Fin → Shared → Prop) (s : Shared), gens[depth]? = some ⟨.Name x px, iter, ifs, 0⟩ →
    TurnW C A e gens (emitOf A) depth it acc env x ifs Q s → wpAny (model C.prog C.w) A (compTurn e depth it acc env) Q NoE s
  quiet : ∀ (depth : Nat) (it : Value) (env : Env), (Code.compLoop e depth it acc env).quiet = true

structure Emit (C : Cx) (n : Nat) (S : Sig) {α : Type} (emitOf : Around → Env → (Shared → Prop) → Shared → Prop) (dd : Addr) (Em : Rho → α → Prop) (Acc : GMap → Heap → List α → Prop) : Prop where
  emit : ∀ (A : Around) (env : Env) (mu : List Addr) (ρ : Rho) (a : α) (G : GMap) (s : Shared) (outs : List α) (Q : Shared → Prop), Room A n → Base C G s → EnvOk C S env mu ρ G s.heap → Em ρ a → Acc G s.heap outs → outs.length ≤ 1000 →
    (∀ G' s', GrS C [dd] G s G' s' → Base C G' s' → Acc G' s'.heap (outs ++ [a]) → Q s') → emitOf A env Q s
  keep : ∀ (G G' : GMap) (s s' : Shared) (nu : List Addr) (outs : List α), Base C G s → Acc G s.heap outs → GrS C nu G s G' s' → dd ∉ nu → Acc G' s'.heap outs
  apart : ∀ (G : GMap) (h : Heap) (outs : List α), Acc G h outs → G dd = none ∧ dd ≠ C.P ∧ ∃ o, h.get? dd = some o

section
variable {C : Cx} {n : Nat} {S : Sig} {pos p : Pos} {env : Env} {mu F : List Addr} {A : Around} {own : List Str}
variable {α : Type} {Em : Rho → α → Prop} {Acc : GMap → Heap → List α → Prop} {e : Expr} {gens : List Comprehension} {emitOf : Around → Env → (Shared → Prop) → Shared → Prop} {dd : Addr}

def Inv (C : Cx) (S : Sig) (env : Env) (mu F : List Addr) (ρ : Rho) (dd : Addr) {α : Type} (Acc : GMap → Heap → List α → Prop) (wr : List Addr) (G : GMap) (s : Shared) (outs : List α) (s' : Shared) : Prop :=
  ∃ G', GrS C (dd :: (wr ++ F)) G s G' s' ∧ Base C G' s' ∧ EnvOk C S env mu ρ G' s'.heap ∧ Acc G' s'.heap outs

mutual
theorem loopX (K : Cok C) (CK : CompKind C e gens (.ref dd) emitOf) (EM : Emit C n S emitOf dd Em Acc) (hA : Room A n) (hFl : env.locals ∈ F) (hFo : ∀ x ∈ own, ∀ c, env.cells.lookup x = some c → c ∈ F) (hFm : ∀ a ∈ F, a ∈ mu) (hdm : dd ∉ mu) :
    ∀ {x : Str} {ifs : List Expr} {gs : List Comprehension} {ρ : Rho} {xs : List D} {out : List α}, CX C n S own Em x ifs gs ρ xs out → ∀ {px : Pos} {iter : Expr} {depth : Nat}, gens[depth]? = some ⟨.Name x px, iter, ifs, 0⟩ → gens.drop (depth + 1) = gs →
      (S.lookup x = some .local ∨ (S.lookup x = some .cell ∧ x ∈ own)) → ρ.lookup x = none → ifs.length ≤ 1 → ∀ {G : GMap} {s : Shared} {it : Value} {wr : List Addr} {outs : List α}, Base C G s → EnvOk C S env mu ρ G s.heap → ItAt C G s.heap it wr xs →
      (∀ b ∈ wr, b ∉ mu ∧ b ≠ dd) → Acc G s.heap outs → (outs ++ out).length ≤ 1000 → codeAny (model C.prog C.w) A (.compLoop e depth it (.ref dd) env) (fun r s' => r = .ok .next ∧ Inv C S env mu F ρ dd Acc wr G s (outs ++ out) s') s
  | x, ifs, gs, ρ, _, _, .nil, px, iter, depth, hg, hgs, hS, hx, hif, G, s, it, wr, outs, B, X, I, hwr, hacc, hlen => by
    refine CK.loop A depth it env _ s (CK.turn A depth it env x px iter ifs _ s hg ⟨hif, I.done K hA.1 B fun s' g' B' => ⟨rfl, ?_⟩⟩)
    rw [List.append_nil]
    exact ⟨G, g'.mono fun a ha => List.mem_cons_of_mem _ (List.mem_append_left _ ha), B', X.grow' g' fun a ha => (hwr a ha).1, EM.keep G G s s' wr outs B hacc g' fun h => (hwr _ h).2 rfl⟩
  | x, ifs, gs, ρ, _, _, .skip (d := d) (ds := ds) (out := out) htst hr, px, iter, depth, hg, hgs, hS, hx, hif, G, s, it, wr, outs, B, X, I, hwr, hacc, hlen => by
    refine CK.loop A depth it env _ s (CK.turn A depth it env x px iter ifs _ s hg ⟨hif, I.next K hA.1 B fun v s1 g1 B1 r1 I1 => ?_⟩)
    have X1 := X.grow' g1 fun a ha => (hwr a ha).1
    have acc1 := EM.keep G G s s1 wr outs B hacc g1 fun h => (hwr _ h).2 rfl
    refine store_var K B1 X1 (hS.imp id fun h => h.1) fun a s2 ha hal hac g2 B2 hX2 _ _ _ => ?_
    have X2 := hX2 d r1
    have haF : a ∈ F := by
      rcases hS with h | ⟨h, ho⟩
      · rw [hal h]; exact hFl
      · exact hFo x ho a (hac h)
    have nu2 : ∀ b ∈ [a], b ∈ F := fun b hb => by rw [List.mem_singleton.mp hb]; exact haF
    have I2 := I1.grow g2 (fun b hb h => (hwr b hb).1 (hFm _ (nu2 b h))) fun b hb => (X1.muOk b (hFm _ (nu2 b hb))).1
    have acc2 := EM.keep G G s1 s2 [a] outs B1 acc1 g2 fun h => hdm (hFm _ (nu2 _ h))
    have tst : wpAny (model C.prog C.w) A (match ifs with | [] => pure true | c :: _ => isTrue c env (eval c env)) (fun r s3 => r = false ∧ ∃ G3, GrS C [] G s2 G3 s3 ∧ Base C G3 s3) NoE s2 := by
      cases htst with
      | one h => exact h env A mu G s2 hA B2 X2
    refine wpAny_mono tst (fun r s3 ⟨hr3, G3, g3, B3⟩ => ?_) fun _ _ e => e
    subst hr3
    refine ⟨CK.quiet _ _ _, ?_⟩
    have X3 := (X2.grow g3).weaken (ρ' := ρ) fun y b hb => by
      rw [List.lookup_cons]
      by_cases q : y = x
      · subst q; rw [hx] at hb; cases hb
      · have q' : (y == x) = false := by simpa using q
        rw [q']; exact hb
    have acc3 := EM.keep G G3 s2 s3 [] outs B2 acc2 g3 fun h => nomatch h
    have I3 := I2.grow g3 (fun _ _ h => nomatch h) fun _ h => nomatch h
    refine codeAny_mono (loopX K CK EM hA hFl hFo hFm hdm hr hg hgs hS hx hif B3 X3 I3 hwr acc3 hlen) fun r s4 ⟨hr4, G4, g4, B4, X4, acc4⟩ => ⟨hr4, G4, ?_, B4, X4, acc4⟩
    refine (g1.seq (mu' := dd :: (wr ++ F)) (g2.seq (mu' := dd :: (wr ++ F)) (g3.seq (mu' := dd :: (wr ++ F)) g4 (fun a ha => .inl ha) fun _ h => nomatch h) (fun a ha => .inl ha) fun b hb => .inl (List.mem_cons_of_mem _ (List.mem_append_right _ (nu2 b hb)))) (fun a ha => .inl ha) fun b hb => .inl (List.mem_cons_of_mem _ (List.mem_append_left _ hb)))
  | x, ifs, gs, ρ, _, _, .take (d := d) (ds := ds) (o1 := o1) (o2 := o2) htst hc hr, px, iter, depth, hg, hgs, hS, hx, hif, G, s, it, wr, outs, B, X, I, hwr, hacc, hlen => by
    refine CK.loop A depth it env _ s (CK.turn A depth it env x px iter ifs _ s hg ⟨hif, I.next K hA.1 B fun v s1 g1 B1 r1 I1 => ?_⟩)
    have X1 := X.grow' g1 fun a ha => (hwr a ha).1
    have acc1 := EM.keep G G s s1 wr outs B hacc g1 fun h => (hwr _ h).2 rfl
    refine store_var K B1 X1 (hS.imp id fun h => h.1) fun a s2 ha hal hac g2 B2 hX2 _ _ _ => ?_
    have X2 := hX2 d r1
    have haF : a ∈ F := by
      rcases hS with h | ⟨h, ho⟩
      · rw [hal h]; exact hFl
      · exact hFo x ho a (hac h)
    have nu2 : ∀ b ∈ [a], b ∈ F := fun b hb => by rw [List.mem_singleton.mp hb]; exact haF
    have I2 := I1.grow g2 (fun b hb h => (hwr b hb).1 (hFm _ (nu2 b h))) fun b hb => (X1.muOk b (hFm _ (nu2 b hb))).1
    have acc2 := EM.keep G G s1 s2 [a] outs B1 acc1 g2 fun h => hdm (hFm _ (nu2 _ h))
    have tst : wpAny (model C.prog C.w) A (match ifs with | [] => pure true | c :: _ => isTrue c env (eval c env)) (fun r s3 => r = true ∧ ∃ G3, GrS C [] G s2 G3 s3 ∧ Base C G3 s3) NoE s2 := by
      cases htst with
      | nil => exact wpAny_pure ⟨rfl, G, .refl C [] G s2, B2⟩
      | one h => exact h env A mu G s2 hA B2 X2
    refine wpAny_mono tst (fun r s3 ⟨hr3, G3, g3, B3⟩ => ?_) fun _ _ e => e
    subst hr3
    have X3 := X2.grow g3
    have acc3 := EM.keep G G3 s2 s3 [] outs B2 acc2 g3 fun h => nomatch h
    have I3 := I2.grow g3 (fun _ _ h => nomatch h) fun _ h => nomatch h
    have hlen1 : (outs ++ o1).length ≤ 1000 := by simp only [List.length_append] at hlen ⊢; omega
    refine loopL K CK EM hA hFl hFo hFm hdm hc hgs B3 X3 acc3 hlen1 _ fun G4 s4 g4 B4 X4 acc4 => ⟨CK.quiet _ _ _, ?_⟩
    have hwr3 : ∀ b ∈ wr, b ∉ dd :: F := fun b hb h => by
      rcases List.mem_cons.mp h with q | q
      · exact (hwr b hb).2 q
      · exact (hwr b hb).1 (hFm _ q)
    have I4 := I3.grow g4 hwr3 fun b hb => by
      rcases List.mem_cons.mp hb with rfl | q
      · exact (EM.apart _ _ _ acc3).1
      · exact (X3.muOk b (hFm _ q)).1
    have X4' := X4.weaken (ρ' := ρ) fun y b hb => by
      rw [List.lookup_cons]
      by_cases q : y = x
      · subst q; rw [hx] at hb; cases hb
      · have q' : (y == x) = false := by simpa using q
        rw [q']; exact hb
    rw [← List.append_assoc] at hlen
    refine codeAny_mono (loopX K CK EM hA hFl hFo hFm hdm hr hg hgs hS hx hif B4 X4' I4 hwr acc4 hlen) fun r s5 ⟨hr5, G5, g5, B5, X5, acc5⟩ => ⟨hr5, G5, ?_, B5, X5, by rwa [List.append_assoc] at acc5⟩
    have e4 : GrS C (dd :: (wr ++ F)) G3 s3 G5 s5 := g4.seq g5 (fun a ha => .inl ha) fun b hb => by
      rcases List.mem_cons.mp hb with rfl | q
      · exact .inl List.mem_cons_self
      · exact .inl (List.mem_cons_of_mem _ (List.mem_append_right _ q))
    exact (g1.seq (mu' := dd :: (wr ++ F)) (g2.seq (mu' := dd :: (wr ++ F)) (g3.seq (mu' := dd :: (wr ++ F)) e4 (fun a ha => .inl ha) fun _ h => nomatch h) (fun a ha => .inl ha) fun b hb => .inl (List.mem_cons_of_mem _ (List.mem_append_right _ (nu2 b hb)))) (fun a ha => .inl ha) fun b hb => .inl (List.mem_cons_of_mem _ (List.mem_append_left _ hb)))
theorem loopL (K : Cok C) (CK : CompKind C e gens (.ref dd) emitOf) (EM : Emit C n S emitOf dd Em Acc) (hA : Room A n) (hFl : env.locals ∈ F) (hFo : ∀ x ∈ own, ∀ c, env.cells.lookup x = some c → c ∈ F) (hFm : ∀ a ∈ F, a ∈ mu) (hdm : dd ∉ mu) :
    ∀ {gs : List Comprehension} {ρ : Rho} {out : List α}, CL C n S own Em gs ρ out → ∀ {depth : Nat}, gens.drop (depth + 1) = gs → ∀ {G : GMap} {s : Shared} {outs : List α}, Base C G s → EnvOk C S env mu ρ G s.heap →
      Acc G s.heap outs → (outs ++ out).length ≤ 1000 → ∀ (Q : Shared → Prop), (∀ G' s', GrS C (dd :: F) G s G' s' → Base C G' s' → EnvOk C S env mu ρ G' s'.heap → Acc G' s'.heap (outs ++ out) → Q s') →
      (match gens[depth + 1]? with
        | none => emitOf A env Q s
        | some g => g.is_async = 0 ∧ (∀ x, foldedSetIterable g.iter env x = pure x) ∧ wpAny (model C.prog C.w) A (eval g.iter env) (fun v s4 => wpAny (model C.prog C.w) A (pyIter v) (fun it2 s5 =>
                wpAny (model C.prog C.w) A (runOwn (.compStart e (depth + 1) it2 (.ref dd) env) env none) (fun _ s6 => Q s6) NoE s5) NoE s4) NoE s)
  | _, ρ, _, .emit (a := a) hem, depth, hgs, G, s, outs, B, X, hacc, hlen, Q, hQ => by
    have hg : gens[depth + 1]? = none := by
      have : gens.length ≤ depth + 1 := List.drop_eq_nil_iff.mp hgs
      exact List.getElem?_eq_none this
    rw [hg]
    refine EM.emit A env mu ρ a G s outs Q hA B X hem hacc (by simp only [List.length_append] at hlen; omega) fun G' s' g' B' acc' => ?_
    have hdm' : ∀ b ∈ [dd], b ∉ mu := fun b hb => by rw [List.mem_singleton.mp hb]; exact hdm
    exact hQ G' s' (g'.mono fun b hb => by rw [List.mem_singleton.mp hb]; exact List.mem_cons_self) B' (X.grow' g' hdm') acc'
  | _, ρ, _, .clause (x := x) (px := px) (iter := iter) (ifs := ifs) (gs := gs) (xs := xs) (out := out) hit hfold hS hx hif hcx, depth, hgs, G, s, outs, B, X, hacc, hlen, Q, hQ => by
    have hg : gens[depth + 1]? = some ⟨.Name x px, iter, ifs, 0⟩ := by
      have : (gens.drop (depth + 1))[0]? = some ⟨.Name x px, iter, ifs, 0⟩ := by rw [hgs]; rfl
      rwa [List.getElem?_drop] at this
    have hgs2 : gens.drop (depth + 1 + 1) = gs := by
      have : (gens.drop (depth + 1)).drop 1 = gs := by rw [hgs]; rfl
      rwa [List.drop_drop] at this
    rw [hg]
    refine ⟨rfl, hfold env, wpAny_mono (hit env A mu G s hA B X) (fun v s4 h4 => wpAny_mono h4 (fun it2 s5 ⟨G5, wr, g5, B5, I5, hfr⟩ => ?_) fun _ _ e => e) fun _ _ e => e⟩
    have X5 := X.grow g5
    have acc5 := EM.keep G G5 s s5 [] outs B hacc g5 fun h => nomatch h
    have hwr : ∀ b ∈ wr, b ∉ mu ∧ b ≠ dd := fun b hb => ⟨fun h => (by obtain ⟨_, _, o, ho⟩ := X.muOk b h; rw [hfr b hb] at ho; cases ho), fun q => (by
      obtain ⟨_, _, o, ho⟩ := EM.apart _ _ _ hacc
      rw [← q, hfr b hb] at ho; cases ho)⟩
    have key := loopX K CK EM hA hFl hFo hFm hdm hcx hg hgs2 hS hx hif B5 X5 I5 hwr acc5 hlen
    have fin : ∀ (r : Result) (s6 : Shared), r = .ok .next ∧ Inv C S env mu F ρ dd Acc wr G5 s5 (outs ++ out) s6 → (match r with | .ok f => Q s6 | .error e => cameBackBy (model C.prog C.w) A env NoE e s6) := fun r s6 ⟨hr, G6, g6, B6, X6, acc6⟩ => by
      subst hr
      refine hQ G6 s6 (g5.seq g6 (fun b hb => ?_) fun _ h => nomatch h) B6 X6 acc6
      rcases List.mem_cons.mp hb with rfl | q
      · exact .inl List.mem_cons_self
      · rcases List.mem_append.mp q with q | q
        · exact .inr (hfr b q)
        · exact .inl (List.mem_cons_of_mem _ q)
    refine wpAny_runOwn ?_
    rw [Around.mark_none]
    refine codeAny_mono (CK.start A (depth + 1) it2 env _ s5 _ hg rfl key (I5.self hA.1 key)) fin
end
end
end Mine

/-! part 11 -/
namespace Mine
section
variable {C : Cx} {n : Nat} {S : Sig} {pos p : Pos} {env : Env} {mu F : List Addr} {A : Around} {own : List Str}

theorem kind_list (C : Cx) (elt : Expr) (gens : List Comprehension) (scope : Scope) (pos : Pos) (acc : Value) : CompKind C (.ListComp elt gens scope pos) gens acc (fun A => listEmit C A elt acc) where
  loop := fun A depth it env R s h => by
    refine codeAny_of_tree ?_
    show wpAny _ A ((compTurn (.ListComp elt gens scope pos) depth it acc env).onRaise (fun x => do noteFrame x env; theTreesLotGoes x)) _ _ s
    exact wpAny_noted (wpAny_mono h (fun _ _ e => e) fun _ _ e => e.elim)
  start := fun A depth it env R s g hg ha h0 h1 => by
    refine codeAny_of_tree ?_
    show wpAny _ A ((compStart (.ListComp elt gens scope pos) depth it acc env).onRaise (fun x => do noteFrame x env; standAt theWindowsPlace)) _ _ s
    refine wpAny_notedAt ?_
    unfold compStart
    have e1 : ((clausesOf (.ListComp elt gens scope pos))[depth]?).elim false (fun x => x.is_async != 0) = false := by
      show (gens[depth]?).elim false _ = false
      rw [hg]; show (g.is_async != 0) = false; rw [ha]; rfl
    rw [e1]
    show wpAny _ A (ask >>= _) _ _ s
    refine wpAny_bind (wpAny_askSetting (wpAny_ite ?_))
    split
    · first
        | exact wpAny_bind (wpAny_pure (wpAny_pure (And.intro rfl h0)))
        | exact wpAny_pure (And.intro rfl h0)
    · refine wpAny_bind (wpAny_rule ?_)
      have e2 : (clausesOf (.ListComp elt gens scope pos))[depth]? = some g := hg
      rw [e2]
      exact wpAny_bind (wpAny_standAt (wpAny_bind (wpAny_mono h1 (fun it' s' h' => wpAny_pure (And.intro rfl h')) fun _ _ e => e.elim)))
  turn := fun A depth it env x px iter ifs Q s hg h => turn_list hg h
  quiet := fun _ _ _ => rfl

theorem kind_dict (C : Cx) (kx vx : Expr) (gens : List Comprehension) (scope : Scope) (pos : Pos) (d : Addr) : CompKind C (.DictComp kx vx gens scope pos) gens (.ref d) (fun A => dictEmit C A kx vx d) where
  loop := fun A depth it env R s h => by
    refine codeAny_of_tree ?_
    show wpAny _ A ((compTurn (.DictComp kx vx gens scope pos) depth it (.ref d) env).onRaise (fun x => do noteFrame x env; theTreesLotGoes x)) _ _ s
    exact wpAny_noted (wpAny_mono h (fun _ _ e => e) fun _ _ e => e.elim)
  start := fun A depth it env R s g hg ha h0 h1 => by
    refine codeAny_of_tree ?_
    show wpAny _ A ((compStart (.DictComp kx vx gens scope pos) depth it (.ref d) env).onRaise (fun x => do noteFrame x env; standAt theWindowsPlace)) _ _ s
    refine wpAny_notedAt ?_
    unfold compStart
    have e1 : ((clausesOf (.DictComp kx vx gens scope pos))[depth]?).elim false (fun x => x.is_async != 0) = false := by
      show (gens[depth]?).elim false _ = false
      rw [hg]; show (g.is_async != 0) = false; rw [ha]; rfl
    rw [e1]
    show wpAny _ A (ask >>= _) _ _ s
    refine wpAny_bind (wpAny_askSetting (wpAny_ite ?_))
    split
    · first
        | exact wpAny_bind (wpAny_pure (wpAny_pure (And.intro rfl h0)))
        | exact wpAny_pure (And.intro rfl h0)
    · refine wpAny_bind (wpAny_rule ?_)
      have e2 : (clausesOf (.DictComp kx vx gens scope pos))[depth]? = some g := hg
      rw [e2]
      exact wpAny_bind (wpAny_standAt (wpAny_bind (wpAny_mono h1 (fun it' s' h' => wpAny_pure (And.intro rfl h')) fun _ _ e => e.elim)))
  turn := fun A depth it env x px iter ifs Q s hg h => turn_dict hg h
  quiet := fun _ _ _ => rfl

def accL (C : Cx) (dd : Addr) (G : GMap) (h : Heap) (outs : List D) : Prop := G dd = none ∧ dd ≠ C.P ∧ ∃ ys, h.PlainList dd ys.toArray ∧ RepL C G ys outs
def puts (outs : List (Str × D)) : List (Str × D) := outs.foldl (fun l p => dput l p.1 p.2) []
def accD (C : Cx) (dd : Addr) (G : GMap) (h : Heap) (outs : List (Str × D)) : Prop := G dd = none ∧ dd ≠ C.P ∧ (dd == sysModules) = false ∧ ∃ kvs, h.DictOf (strKind C.prog C.w) dd kvs ∧ RepE C G kvs (puts outs)

theorem none_keep {nu : List Addr} {G G' : GMap} {s s' : Shared} {dd : Addr} (g : GrS C nu G s G' s') (h : G dd = none) (hn : dd ∉ nu) (ho : ∃ o, s.heap.get? dd = some o) : G' dd = none := by
  cases e : G' dd with
  | none => rfl
  | some o =>
    rcases g.dom dd o e with q | q | q
    · rw [h] at q; cases q
    · obtain ⟨o', ho'⟩ := ho; rw [ho'] at q; cases q
    · exact absurd q hn

theorem emit_list (K : Cok C) {elt : Expr} (dd : Addr) : Emit C n S (fun A => listEmit C A elt (.ref dd)) dd (fun ρ d => Ev C n S ρ elt d) (accL C dd) where
  emit := fun A env mu ρ a G s outs Q hA B X hem ⟨hG, hP, ys, hl, hr⟩ hlen hQ => by
    refine wpAny_mono (hem env A mu G s hA B X) (fun v s1 ⟨G1, g1, B1, r1⟩ => ?_) fun _ _ e => e
    have halive : ∃ o, s.heap.get? dd = some o := let ⟨n, e⟩ := hl; ⟨_, e⟩
    have hG1 := none_keep g1 hG (fun h => nomatch h) halive
    have hl1 : s1.heap.PlainList dd ys.toArray := hl.at fun o e => g1.keep dd o (fun h => nomatch h) hP e
    refine wpAny_list_append_plain hl1 (fun h' hl' hs' => ?_) (by rw [List.size_toArray, hr.length, sizeLine_eq]; omega)
    refine hQ G1 _ (g1.seq (GrS.set C G1 s1 (tk := s1.toks) hs') (fun a ha => .inl ha) fun _ h => nomatch h) (B1.set K hG1 hP hs') ⟨hG1, hP, ys ++ [v], by simpa using hl', (hr.grow g1).append (.cons r1 .nil)⟩
  keep := fun G G' s s' nu outs B ⟨hG, hP, ys, hl, hr⟩ g hn => ⟨none_keep g hG hn (let ⟨n, e⟩ := hl; ⟨_, e⟩), hP, ys, hl.at fun o e => g.keep dd o hn hP e, hr.grow g⟩
  apart := fun G h outs ⟨hG, hP, ys, hl, hr⟩ => ⟨hG, hP, let ⟨n, e⟩ := hl; ⟨_, e⟩⟩

theorem dput_length (l : List (Str × D)) (k : Str) (d : D) : (dput l k d).length ≤ l.length + 1 := by
  unfold dput; split
  · rw [List.length_map]; omega
  · rw [List.length_append, List.length_singleton]; exact Nat.le_refl _
theorem puts_snoc (outs : List (Str × D)) (p : Str × D) : puts (outs ++ [p]) = dput (puts outs) p.1 p.2 := by unfold puts; rw [List.foldl_append]; rfl
theorem puts_foldl_length (outs : List (Str × D)) : ∀ l : List (Str × D), (outs.foldl (fun l p => dput l p.1 p.2) l).length ≤ l.length + outs.length := by
  induction outs with
  | nil => intro l; simp
  | cons p r ih =>
    intro l
    rw [List.foldl_cons]
    have := ih (dput l p.1 p.2)
    have := dput_length l p.1 p.2
    rw [List.length_cons]; omega
theorem puts_length (outs : List (Str × D)) : (puts outs).length ≤ outs.length := by simpa [puts] using puts_foldl_length outs []

theorem dict_at {h h' : Heap} {a : Addr} {kvs : List (Str × Value)} (x : h.DictOf (strKind C.prog C.w) a kvs) (hk : ∀ o, h.get? a = some o → h'.get? a = some o) : h'.DictOf (strKind C.prog C.w) a kvs :=
  let ⟨o, ho, r⟩ := Heap.dictOf_iff.mp x; Heap.dictOf_iff.mpr ⟨o, hk o ho, r⟩

theorem emit_dict (K : Cok C) {kx vx : Expr} (dd : Addr) : Emit C n S (fun A => dictEmit C A kx vx dd) dd (fun ρ p => Ev C n S ρ kx (.str p.1) ∧ Ev C n S ρ vx p.2) (accD C dd) where
  emit := fun A env mu ρ a G s outs Q hA B X hem ⟨hG, hP, hsm, kvs, hl, hr⟩ hlen hQ => by
    refine wpAny_mono (hem.1 env A mu G s hA B X) (fun kv s1 ⟨G1, g1, B1, r1⟩ => ?_) fun _ _ e => e
    refine wpAny_mono (hem.2 env A mu G1 s1 hA B1 (X.grow g1)) (fun v s2 ⟨G2, g2, B2, r2⟩ => ?_) fun _ _ e => e
    have g12 := g1.trans g2
    have halive : ∃ o, s.heap.get? dd = some o := let ⟨o, ho, _⟩ := Heap.dictOf_iff.mp hl; ⟨o, ho⟩
    have hG2 := none_keep g12 hG (fun h => nomatch h) halive
    have hl2 := dict_at hl fun o e => g12.keep dd o (fun h => nomatch h) hP e
    cases r1
    refine wpAny_dictSet_pairs (strKind_is C.prog C.w a.1 _) hl2 (fun h' hl' hs' => ?_) (by rw [hr.length, sizeLine_eq]; have := puts_length outs; omega)
    refine hQ G2 _ (g12.seq (GrS.set C G2 s2 (tk := s2.toks + 1) hs') (fun a ha => .inl ha) fun _ h => nomatch h) (B2.set K hG2 hP hs') ⟨hG2, hP, hsm, _, hl', by rw [puts_snoc]; exact (hr.grow g12).put r2⟩
  keep := fun G G' s s' nu outs B ⟨hG, hP, hsm, kvs, hl, hr⟩ g hn => ⟨none_keep g hG hn (let ⟨o, ho, _⟩ := Heap.dictOf_iff.mp hl; ⟨o, ho⟩), hP, hsm, kvs, dict_at hl fun o e => g.keep dd o hn hP e, hr.grow g⟩
  apart := fun G h outs ⟨hG, hP, hsm, kvs, hl, hr⟩ => ⟨hG, hP, let ⟨o, ho, _⟩ := Heap.dictOf_iff.mp hl; ⟨o, ho⟩⟩
end
end Mine

/-! part 12 -/
namespace Mine

/-- what a closure takes along -/
def closL (env : Env) : List (Str × NameKind) → List (Str × Addr) → List (Str × Addr)
  | [], acc => acc
  | (x, k) :: r, acc => if k == .free then closL env r ((x, (env.cells.lookup x).getD 0) :: acc) else closL env r acc

theorem closFor_go (env : Env) : ∀ (names : List (Str × NameKind)) (acc : List (Str × Addr)), (∀ x, (x, NameKind.free) ∈ names → ∃ c, env.cells.lookup x = some c) →
    (forIn names acc fun x r => if (x.2 == NameKind.free) = true then do let a ← cellOf env x.1; pure (ForInStep.yield ((x.1, a) :: r)) else pure (ForInStep.yield r)) = (pure (closL env names acc) : Sem (List (Str × Addr)))
  | [], acc, _ => by rw [List.forIn_nil]; rfl
  | (x, k) :: r, acc, h => by
    rw [List.forIn_cons]
    unfold closL
    cases hk : k == NameKind.free with
    | false =>
      simp only [hk, Bool.false_eq_true, if_false, pure_bind]
      exact closFor_go env r acc fun y hy => h y (List.mem_cons_of_mem _ hy)
    | true =>
      have hk' : k = .free := by simpa using hk
      subst hk'
      obtain ⟨c, hc⟩ := h x List.mem_cons_self
      have e : cellOf env x = pure c := by unfold cellOf; rw [hc]
      simp only [if_true, e, pure_bind, hc, Option.getD_some]
      exact closFor_go env r _ fun y hy => h y (List.mem_cons_of_mem _ hy)

theorem closFor (scope : Scope) (env : Env) (h : ∀ x, (x, NameKind.free) ∈ scope.names → ∃ c, env.cells.lookup x = some c) : closureFor scope env = pure (closL env scope.names []) := by
  unfold closureFor
  have := closFor_go env scope.names [] h
  show (forIn scope.names [] _ >>= fun cs => pure cs) = _
  rw [bind_pure]
  exact this

theorem closL_mem (env : Env) : ∀ (names : List (Str × NameKind)) (acc : List (Str × Addr)) {x : Str} {c : Addr}, (x, c) ∈ closL env names acc → (x, c) ∈ acc ∨ ((x, NameKind.free) ∈ names ∧ c = (env.cells.lookup x).getD 0)
  | [], acc, x, c, h => .inl h
  | (y, k) :: r, acc, x, c, h => by
    unfold closL at h
    split at h
    · rename_i hk
      have hk' : k = .free := by simpa using hk
      subst hk'
      rcases closL_mem env r _ h with q | ⟨q1, q2⟩
      · rcases List.mem_cons.mp q with e | q
        · cases e; exact .inr ⟨List.mem_cons_self, rfl⟩
        · exact .inl q
      · exact .inr ⟨List.mem_cons_of_mem _ q1, q2⟩
    · rcases closL_mem env r _ h with q | ⟨q1, q2⟩
      · exact .inl q
      · exact .inr ⟨List.mem_cons_of_mem _ q1, q2⟩
theorem closL_has (env : Env) : ∀ (names : List (Str × NameKind)) (acc : List (Str × Addr)) {x : Str}, ((x, NameKind.free) ∈ names ∨ ∃ c, (x, c) ∈ acc) → ∃ c, (x, c) ∈ closL env names acc
  | [], acc, x, h => by
    rcases h with h | h
    · cases h
    · exact h
  | (y, k) :: r, acc, x, h => by
    unfold closL
    split
    · refine closL_has env r _ ?_
      rcases h with h | ⟨c, h⟩
      · rcases List.mem_cons.mp h with e | h
        · cases e; exact .inr ⟨_, List.mem_cons_self⟩
        · exact .inl h
      · exact .inr ⟨c, List.mem_cons_of_mem _ h⟩
    · rename_i hk
      refine closL_has env r _ ?_
      rcases h with h | h
      · rcases List.mem_cons.mp h with e | h
        · cases e; exact absurd rfl hk
        · exact .inl h
      · exact .inr h

theorem cells_app : ∀ (names : List (Str × NameKind)) (k : Nat) (acc : List (Str × Addr)), cellsFrom k names acc = cellsFrom k names [] ++ acc
  | [], k, acc => rfl
  | (x, kd) :: r, k, acc => by
    unfold cellsFrom
    split
    · rw [cells_app r (k + 1) ((x, k) :: acc), cells_app r (k + 1) [(x, k)], List.append_assoc]; rfl
    · exact cells_app r k acc
theorem cells_mem : ∀ (names : List (Str × NameKind)) (k : Nat) {x : Str} {c : Addr}, (x, c) ∈ cellsFrom k names [] → (x, NameKind.cell) ∈ names
  | [], k, x, c, h => nomatch h
  | (y, kd) :: r, k, x, c, h => by
    unfold cellsFrom at h
    split at h
    · rename_i hk
      have hk' : kd = .cell := by simpa using hk
      subst hk'
      rw [cells_app] at h
      rcases List.mem_append.mp h with h | h
      · exact List.mem_cons_of_mem _ (cells_mem r _ h)
      · rw [List.mem_singleton] at h; cases h; exact List.mem_cons_self
    · exact List.mem_cons_of_mem _ (cells_mem r _ h)
theorem cells_has : ∀ (names : List (Str × NameKind)) (k : Nat) {x : Str}, (x, NameKind.cell) ∈ names → ∃ c, (x, c) ∈ cellsFrom k names []
  | [], k, x, h => nomatch h
  | (y, kd) :: r, k, x, h => by
    unfold cellsFrom
    split
    · rw [cells_app]
      rcases List.mem_cons.mp h with e | h
      · cases e; exact ⟨_, List.mem_append_right _ List.mem_cons_self⟩
      · obtain ⟨c, hc⟩ := cells_has r (k + 1) h; exact ⟨c, List.mem_append_left _ hc⟩
    · rename_i hk
      rcases List.mem_cons.mp h with e | h
      · cases e; exact absurd rfl hk
      · exact cells_has r k h

theorem lookup_of_mem : ∀ {l : List (Str × Addr)} {x : Str} {c : Addr}, (x, c) ∈ l → ∃ c', l.lookup x = some c'
  | (y, d) :: r, x, c, h => by
    rw [List.lookup_cons]
    cases hb : x == y with
    | true => exact ⟨d, rfl⟩
    | false =>
      rcases List.mem_cons.mp h with e | h
      · cases e; simp at hb
      · exact lookup_of_mem h
theorem lookup_none_of {l : List (Str × Addr)} {x : Str} (h : ∀ c, (x, c) ∉ l) : l.lookup x = none := by
  cases e : l.lookup x with
  | none => rfl
  | some c => exact absurd (mem_of_lookup e) (h c)
theorem lookup_app {l l' : List (Str × Addr)} {x : Str} : (l ++ l').lookup x = match l.lookup x with | some c => some c | none => l'.lookup x := by
  induction l with
  | nil => rfl
  | cons y r ih =>
    rw [List.cons_append, List.lookup_cons, List.lookup_cons]
    cases x == y.1 with
    | true => rfl
    | false => exact ih

section
variable {M : Model} {A : Around} {E : Value → Shared → Prop} {s : Shared}
theorem newEnv_comp {scope : Scope} {globals : Addr} {cl : List (Str × Addr)} {qual : Str} {env : Env} {Q : Env → Shared → Prop}
    (hQ : Q (newEnv scope s.heap.objs.size globals (cellsFrom (s.heap.objs.size + 1) scope.names cl) qual none .none (some env) builtinsNs)
      { s with heap := pushCells (s.heap.push { cls := .type "dict", data := .dict #[] }) scope.names }) :
    wpAny M A (newFunctionEnv scope globals cl [] qual none .none (some env)) Q E s := by
  simp only [newFunctionEnv, Option.isSome_some, if_true]
  refine wpAny_bind (wpAny_alloc ?_)
  refine wpAny_bind (wpAny_layCells _ (fun name kind cells => by cases hkc : kind == NameKind.cell <;> simp [hkc]) _ _ _ _ ?_)
  rw [show ({ s with heap := s.heap.push { cls := .type "dict", data := .dict #[] } } : Shared).heap.objs.size = s.heap.objs.size + 1 from Heap.size_push ..]
  exact wpAny_pure hQ
end

/-- the names of a comprehension's scope, seen in this frame -/
def relS (names S : Sig) : Sig := names.map fun (x, k) => if (k == .free && S.lookup x == some .cell) then (x, .cell) else (x, k)

section
variable {C : Cx} {n : Nat} {S : Sig} {ρ ρc : Rho} {pos p : Pos} {env : Env} {mu F : List Addr} {A : Around} {own : List Str} {G : GMap} {s : Shared}

theorem relabel_names (X : EnvOk C S env mu ρ G s.heap) (scope : Scope) : (relabel scope env).names = relS scope.names S := by
  unfold relabel relS
  refine List.map_congr_left fun ⟨x, k⟩ _ => ?_
  show (if (k == .free && env.scope.kind == .function && env.kindOf x == some .cell) = true then (x, NameKind.cell) else (x, k)) = _
  rw [X.fn, X.kind x]
  simp

structure ScopeOk (names S S' : Sig) (own : List Str) : Prop where
  rel : relS names S = S'
  free : ∀ x, (x, NameKind.free) ∈ names → S.lookup x = some .cell ∨ S.lookup x = some .free
  apart : ∀ x, (x, NameKind.free) ∈ names → (x, NameKind.cell) ∉ names
  own : ∀ x, x ∈ own → (x, NameKind.cell) ∈ names
  nozip : S'.lookup (Str.ofString "zip") = none

theorem relS_mem {names S : Sig} {x : Str} {k : NameKind} (h : (relS names S).lookup x = some k) (hk : k = .cell ∨ k = .free) : (x, NameKind.cell) ∈ names ∨ (x, NameKind.free) ∈ names := by
  have := mem_of_lookup h
  unfold relS at this
  obtain ⟨⟨y, k'⟩, hm, he⟩ := List.mem_map.mp this
  dsimp only at he
  split at he
  · rename_i hc
    cases he
    have hc' : k' = .free := by simp at hc; exact hc.1
    subst hc'
    exact .inr hm
  · cases he
    rcases hk with rfl | rfl
    · exact .inl hm
    · exact .inr hm

def Capt (ρ : Rho) (names S S' : Sig) (p : Str × Bd) : Prop := ρ.lookup p.1 = some p.2 ∧ (∃ d, p.2 = .v d) ∧ (p.1, NameKind.free) ∈ names ∧ (S'.lookup p.1 = some .cell ∨ S'.lookup p.1 = some .free)

/-- the frame of a comprehension -/
theorem comp_env (K : Cok C) (B : Base C G s) (X : EnvOk C S env mu ρ G s.heap) {scope : Scope} {S' : Sig} (hk : scope.kind = .function) (hsc : ScopeOk scope.names S S' own) (hρ : ∀ p ∈ ρc, Capt ρ scope.names S S' p) :
    let cenv := { newEnv scope s.heap.objs.size env.globals (cellsFrom (s.heap.objs.size + 1) scope.names (closL env scope.names [])) env.qual none .none (some env) builtinsNs with scope := relabel scope env }
    let s' : Shared := { s with heap := pushCells (s.heap.push { cls := .type "dict", data := .dict #[] }) scope.names }
    GrS C [] G s G s' ∧ Base C G s' ∧ ∃ (mu' F : List Addr), EnvOk C S' cenv mu' ρc G s'.heap ∧ cenv.locals ∈ F ∧ (∀ x ∈ own, ∀ c, cenv.cells.lookup x = some c → c ∈ F) ∧ (∀ a ∈ F, a ∈ mu' ∧ s.heap.get? a = none) ∧ (∀ a ∈ mu', a ∈ mu ∨ s.heap.get? a = none) := by
  intro cenv s'
  have hkeep : ∀ b o, s.heap.get? b = some o → s'.heap.get? b = some o := fun b o e => pushCells_keeps _ _ b o (Heap.get?_push_of_some _ e)
  obtain ⟨g, B'⟩ := grown_none K.tabLocal B (tk := s.toks) hkeep
  have ok := cellsFrom_ok scope.names (s.heap.push { cls := .type "dict", data := .dict #[] }) (s.heap.objs.size + 1) [] ⟨fun _ _ hm => (nomatch hm), List.Pairwise.nil⟩ (by rw [Heap.size_push]; exact Nat.le_refl _)
  rw [Heap.size_push] at ok
  have hcells : cenv.cells = cellsFrom (s.heap.objs.size + 1) scope.names [] ++ closL env scope.names [] := cells_app ..
  have hclos : ∀ x, (x, NameKind.free) ∈ scope.names → ∃ c, env.cells.lookup x = some c := fun x hx => X.has x (hsc.free x hx)
  have hcl : ∀ x c, (x, c) ∈ closL env scope.names [] → (x, NameKind.free) ∈ scope.names ∧ env.cells.lookup x = some c := fun x c h => by
    rcases closL_mem env _ _ h with q | ⟨q1, q2⟩
    · cases q
    · obtain ⟨c', hc'⟩ := hclos x q1
      rw [hc'] at q2
      exact ⟨q1, by rw [q2]; exact hc'⟩
  have hown : ∀ x c, (x, c) ∈ cellsFrom (s.heap.objs.size + 1) scope.names [] → s'.heap.IsCell c none ∧ s.heap.get? c = none ∧ (x, NameKind.cell) ∈ scope.names := fun x c h =>
    ⟨(ok.empty x c h).1, get_above (Nat.le_of_succ_le (ok.empty x c h).2), cells_mem _ _ h⟩
  have hlook : ∀ x c, cenv.cells.lookup x = some c → (x, c) ∈ cellsFrom (s.heap.objs.size + 1) scope.names [] ∨ (x, c) ∈ closL env scope.names [] := fun x c h => by
    have := mem_of_lookup h
    rw [hcells] at this
    exact List.mem_append.mp this
  have hloc : s'.heap.Ns cenv.locals (fun _ => none) := (Heap.Ns.new s.heap (.type "dict")).keeps (pushCells_keeps _ _)
  have hlocN : s.heap.get? cenv.locals = none := get_size _
  have alive : ∀ {a}, s.heap.get? a = none → (∃ o, s'.heap.get? a = some o) → G a = none ∧ a ≠ C.P ∧ ∃ o, s'.heap.get? a = some o := fun {a} h1 h2 => ⟨B.fresh h1, fun e => (by obtain ⟨o, ho⟩ := K.tabP _ B.tab; rw [e, ho] at h1; cases h1), h2⟩
  refine ⟨g, B', cenv.locals :: ((cellsFrom (s.heap.objs.size + 1) scope.names []).map (·.2) ++ mu), cenv.locals :: (cellsFrom (s.heap.objs.size + 1) scope.names []).map (·.2), ⟨hk, ?_, X.glob, X.blt, ⟨_, hloc⟩, List.mem_cons_self, fun x c hc => ?_, fun x hx => ?_, fun x y c hx hy => ?_, fun a ha => ?_, fun x b hb => ?_, fun h => (by rw [hsc.nozip] at h; cases h)⟩, List.mem_cons_self, fun x hx c hc => ?_, fun a ha => ?_, fun a ha => ?_⟩
  · exact (relabel_names X scope).trans hsc.rel
  · rcases hlook x c hc with h | h
    · exact ⟨⟨_, (hown x c h).1⟩, List.mem_cons_of_mem _ (List.mem_append_left _ (List.mem_map.mpr ⟨_, h, rfl⟩))⟩
    · obtain ⟨⟨v, hv⟩, hm⟩ := X.cells x c (hcl x c h).2
      exact ⟨⟨v, hv.keeps hkeep⟩, List.mem_cons_of_mem _ (List.mem_append_right _ hm)⟩
  · have hx' : (x, NameKind.cell) ∈ scope.names ∨ (x, NameKind.free) ∈ scope.names := by
      rw [← hsc.rel] at hx
      rcases hx with hx | hx
      · exact relS_mem hx (.inl rfl)
      · exact relS_mem hx (.inr rfl)
    have : ∃ c, (x, c) ∈ cenv.cells := by
      rw [hcells]
      rcases hx' with h | h
      · obtain ⟨c, hc⟩ := cells_has _ (s.heap.objs.size + 1) h; exact ⟨c, List.mem_append_left _ hc⟩
      · obtain ⟨c, hc⟩ := closL_has env _ [] (.inl h); exact ⟨c, List.mem_append_right _ hc⟩
    obtain ⟨c, hc⟩ := this
    exact lookup_of_mem hc
  · rcases hlook x c hx with h1 | h1 <;> rcases hlook y c hy with h2 | h2
    · exact name_of_addr ok.apart h1 h2
    · obtain ⟨⟨v, ⟨o, ho, _⟩⟩, _⟩ := X.cells y c (hcl y c h2).2
      rw [(hown x c h1).2.1] at ho; cases ho
    · obtain ⟨⟨v, ⟨o, ho, _⟩⟩, _⟩ := X.cells x c (hcl x c h1).2
      rw [(hown y c h2).2.1] at ho; cases ho
    · exact X.inj x y c (hcl x c h1).2 (hcl y c h2).2
  · rcases List.mem_cons.mp ha with rfl | ha
    · obtain ⟨o, _, _, ho, _⟩ := hloc
      exact alive hlocN ⟨o, ho⟩
    · rcases List.mem_append.mp ha with ha | ha
      · obtain ⟨⟨x, c⟩, hm, rfl⟩ := List.mem_map.mp ha
        obtain ⟨o, ho, _⟩ := (hown x c hm).1
        exact alive (hown x c hm).2.1 ⟨o, ho⟩
      · obtain ⟨h1, h2, o, h3⟩ := X.muOk a ha
        exact ⟨h1, h2, o, hkeep _ _ h3⟩
  · obtain ⟨h1, ⟨d, hd⟩, h3, h4⟩ := hρ _ (mem_of_lookup hb)
    dsimp only at h1 hd h3 h4
    subst hd
    obtain ⟨v, hv, hr⟩ := X.vars x _ h1
    refine ⟨v, ?_, hr⟩
    obtain ⟨c, hc⟩ := hclos x h3
    have hvc : s.heap.IsCell c (some v) := by
      unfold VarIs at hv
      rcases hsc.free x h3 with q | q
      · rw [(X.kind x).trans q] at hv; obtain ⟨c', e, hi⟩ := hv; rw [hc] at e; cases e; exact hi
      · rw [(X.kind x).trans q] at hv; obtain ⟨c', e, hi⟩ := hv; rw [hc] at e; cases e; exact hi
    have hcc : cenv.cells.lookup x = some c := by
      rw [hcells, lookup_app, lookup_none_of (l := cellsFrom (s.heap.objs.size + 1) scope.names []) fun c' hm => hsc.apart x h3 (cells_mem _ _ hm)]
      obtain ⟨c1, h1⟩ := closL_has env _ [] (.inl h3)
      obtain ⟨c2, h2⟩ := lookup_of_mem h1
      have := (hcl x c2 (mem_of_lookup h2)).2
      rw [hc] at this; cases this
      exact h2
    have hkind : cenv.kindOf x = S'.lookup x := by unfold Env.kindOf; rw [show cenv.scope.names = S' from (relabel_names X scope).trans hsc.rel]
    unfold VarIs
    rcases h4 with q | q <;> rw [hkind.trans q] <;> exact ⟨c, hcc, hvc.keeps hkeep⟩
  · rcases hlook x c hc with h | h
    · exact List.mem_cons_of_mem _ (List.mem_map.mpr ⟨_, h, rfl⟩)
    · exact absurd (hsc.own x hx) (hsc.apart x (hcl x c h).1)
  · rcases List.mem_cons.mp ha with rfl | ha
    · exact ⟨List.mem_cons_self, hlocN⟩
    · obtain ⟨⟨x, c⟩, hm, rfl⟩ := List.mem_map.mp ha
      exact ⟨List.mem_cons_of_mem _ (List.mem_append_left _ (List.mem_map.mpr ⟨_, hm, rfl⟩)), (hown x c hm).2.1⟩
  · rcases List.mem_cons.mp ha with rfl | ha
    · exact .inr hlocN
    · rcases List.mem_append.mp ha with ha | ha
      · obtain ⟨⟨x, c⟩, hm, rfl⟩ := List.mem_map.mp ha
        exact .inr (hown x c hm).2.1
      · exact .inl ha
end
end Mine

/-! part 13 -/
namespace Mine
section
variable {C : Cx} {n : Nat} {S S' : Sig} {ρ ρc : Rho} {pos p : Pos} {env : Env} {mu F : List Addr} {A : Around} {own : List Str} {G : GMap} {s : Shared}

theorem not_sys (K : Cok C) (B : Base C G s) : (s.heap.objs.size == sysModules) = false := by
  have hm : s.heap.Ns mainGlobals C.mg := B.ns K.g K.gP
  have hlt : 3 < s.heap.objs.size := hm.lt
  cases q : s.heap.objs.size == sysModules with
  | false => rfl
  | true =>
    have e : s.heap.objs.size = 1 := by simpa [sysModules] using q
    omega

/-- what a comprehension makes: a new list or dict, filled -/
structure Make (C : Cx) (n : Nat) (S' : Sig) (e : Expr) (gens : List Comprehension) {α : Type} (emitOf : Addr → Around → Env → (Shared → Prop) → Shared → Prop) (Em : Rho → α → Prop) (Acc : Addr → GMap → Heap → List α → Prop)
    (newAcc : Sem Value) (obj : Obj) (res : List α → D) : Prop where
  kind : ∀ dd, CompKind C e gens (.ref dd) (emitOf dd)
  emit : ∀ dd, Emit C n S' (emitOf dd) dd Em (Acc dd)
  new : ∀ (A : Around) (s : Shared) (Q : Value → Shared → Prop), Q (.ref s.heap.objs.size) { s with heap := s.heap.push obj } → wpAny (model C.prog C.w) A newAcc Q NoE s
  freed : obj.isFreed = false
  acc0 : ∀ dd G h, G dd = none → dd ≠ C.P → h.get? dd = some obj → (dd == sysModules) = false → Acc dd G h []
  fin : ∀ dd G h outs, Acc dd G h outs → ∃ o, h.get? dd = some o ∧ ∀ G' : GMap, (∀ b p, G b = some p → G' b = some p) → G' dd = some o → Rep C G' (.ref dd) (res outs)

def MidPost (C : Cx) (G : GMap) (s : Shared) (L : Addr) (d : D) (acc : Value) (s5 : Shared) : Prop :=
  ∃ G5, GrS C [] G s G5 s5 ∧ Base C G5 s5 ∧ Rep C G5 acc d ∧ G5 L = none ∧ L ≠ C.P ∧ s.heap.get? L = none ∧ (∃ m, s5.heap.Ns L m)

theorem comp_mid (K : Cok C) {e : Expr} {scope : Scope} {x : Str} {px : Pos} {iter : Expr} {ifs : List Expr} {gs : List Comprehension} {α : Type} {emitOf : Addr → Around → Env → (Shared → Prop) → Shared → Prop} {Em : Rho → α → Prop}
    {Acc : Addr → GMap → Heap → List α → Prop} {newAcc : Sem Value} {obj : Obj} {res : List α → D} {xs : List D} {out : List α}
    (MK : Make C n S' e (⟨.Name x px, iter, ifs, 0⟩ :: gs) emitOf Em Acc newAcc obj res) (hk : scope.kind = .function) (hsc : ScopeOk scope.names S S' own) (hρ : ∀ p ∈ ρc, Capt ρ scope.names S S' p)
    (hit : It C n S ρ iter xs) (hS : S'.lookup x = some .local ∨ (S'.lookup x = some .cell ∧ x ∈ own)) (hx : ρc.lookup x = none) (hif : ifs.length ≤ 1) (hcx : CX C n S' own Em x ifs gs ρc xs out) (hlen : out.length ≤ 1000)
    (hA : Room A n) (B : Base C G s) (X : EnvOk C S env mu ρ G s.heap) :
    closureFor scope env = pure (closL env scope.names []) ∧
    wpAny (model C.prog C.w) A (eval iter env) (fun v s1 => wpAny (model C.prog C.w) A (pyIter v) (fun it s2 => wpAny (model C.prog C.w) A newAcc (fun acc s3 =>
      wpAny (model C.prog C.w) A (newFunctionEnv scope env.globals (closL env scope.names []) [] env.qual none .none (some env)) (fun cenv s4 =>
        codeAny (model C.prog C.w) A (.compStart e 0 it acc { cenv with scope := relabel scope env }) (fun r s5 => r = .ok .next ∧ MidPost C G s cenv.locals (res out) acc s5) s4) NoE s3) NoE s2) NoE s1) NoE s := by
  refine ⟨closFor scope env fun y hy => X.has y (hsc.free y hy), ?_⟩
  refine wpAny_mono (hit env A mu G s hA B X) (fun v s1 h1 => wpAny_mono h1 (fun it s2 ⟨G2, wr, g2, B2, I2, hfr⟩ => ?_) fun _ _ e => e) fun _ _ e => e
  have X2 := X.grow g2
  refine MK.new A s2 _ ?_
  have hdd : s2.heap.get? s2.heap.objs.size = none := get_size _
  have hddP : s2.heap.objs.size ≠ C.P := fun e => by obtain ⟨o, ho⟩ := K.tabP _ B2.tab; rw [e, ho] at hdd; cases hdd
  obtain ⟨g3, B3⟩ := grown_none K.tabLocal B2 (tk := s2.toks) (h' := s2.heap.push obj) fun _ _ e => Heap.get?_push_of_some _ e
  have X3 := X2.grow g3
  refine newEnv_comp ?_
  obtain ⟨g4, B4, mu', F, X4, hFl, hFo, hFm, hmu⟩ := comp_env (own := own) K B3 X3 hk hsc hρ
  have acc3 : Acc s2.heap.objs.size G2 (s2.heap.push obj) [] := MK.acc0 _ _ _ (B2.fresh hdd) hddP (Heap.get?_push_size _ MK.freed) (not_sys K B2)
  have acc4 := (MK.emit s2.heap.objs.size).keep _ _ _ _ [] [] B3 acc3 g4 fun h => nomatch h
  have I4 := (I2.grow g3 (fun _ _ h => nomatch h) fun _ h => nomatch h).grow g4 (fun _ _ h => nomatch h) fun _ h => nomatch h
  have hdm : s2.heap.objs.size ∉ mu' := fun h => by
    rcases hmu _ h with q | q
    · obtain ⟨_, _, o, ho⟩ := X2.muOk _ q; rw [hdd] at ho; cases ho
    · rw [Heap.get?_push_size _ MK.freed] at q; cases q
  have hwr : ∀ b ∈ wr, b ∉ mu' ∧ b ≠ s2.heap.objs.size := fun b hb => by
    have hal : ∃ o, s2.heap.get? b = some o := by
      obtain ⟨I, fp, n, P, St, i, e, W, hst, hn, hfp, _, hal, _⟩ := I2
      exact hal i _ hst b ((W { handled := none } rfl).sub b hb)
    obtain ⟨o, ho⟩ := hal
    refine ⟨fun h => ?_, fun q => by rw [q, hdd] at ho; cases ho⟩
    rcases hmu _ h with q | q
    · obtain ⟨_, _, o', ho'⟩ := X.muOk _ q; rw [hfr b hb] at ho'; cases ho'
    · rw [Heap.get?_push_of_some _ ho] at q; cases q
  have key := loopX (F := F) K (MK.kind s2.heap.objs.size) (MK.emit s2.heap.objs.size) hA hFl hFo (fun a ha => (hFm a ha).1) hdm hcx (depth := 0) (px := px) (iter := iter) rfl rfl hS hx hif B4 X4 I4 hwr acc4 (by simpa using hlen)
  have g24 := g2.trans (g3.trans g4)
  refine codeAny_mono ((MK.kind s2.heap.objs.size).start A 0 it _ _ _ ⟨.Name x px, iter, ifs, 0⟩ rfl rfl key (I4.self hA.1 key)) fun r s5 ⟨hr, G5, g5, B5, X5, acc5⟩ => ⟨hr, ?_⟩
  rw [List.nil_append] at acc5
  obtain ⟨o, ho, hrep⟩ := MK.fin _ _ _ _ acc5
  obtain ⟨hG5, _, _⟩ := (MK.emit s2.heap.objs.size).apart _ _ _ acc5
  have g15 : GrS C [] G s G5 s5 := g24.seq g5 (fun a ha => .inr ?_) fun _ h => nomatch h
  · have hN : s.heap.get? s2.heap.objs.size = none := none_back K B2 g2 hdd
    have hlocM := X5.locMu
    have hdne : s2.heap.objs.size ≠ (newEnv scope (s2.heap.push obj).objs.size env.globals (cellsFrom ((s2.heap.push obj).objs.size + 1) scope.names (closL env scope.names [])) env.qual none .none (some env) builtinsNs).locals := by
      show s2.heap.objs.size ≠ (s2.heap.push obj).objs.size
      rw [Heap.size_push]; omega
    refine ⟨addG G5 s2.heap.objs.size o, ?_, ⟨fun b p e => ?_, fun b p hb e => addG_sub hG5 b p (B5.top b p hb e), ?_, B5.tab, B5.gens⟩, hrep _ (addG_sub hG5) addG_self, ?_, (X5.muOk _ hlocM).2.1, ?_, X5.ns⟩
    · refine ⟨g15.keep, g15.os, fun b p e => addG_sub hG5 b p (g15.sub b p e), fun b p e => ?_, fun h => ?_⟩
      · by_cases q : b = s2.heap.objs.size
        · exact .inr (.inl (q ▸ hN))
        · rw [addG, if_neg q] at e; exact g15.dom b p e
      · rw [addG, if_neg (Ne.symm hddP)]; exact g15.noP h
    · by_cases q : b = s2.heap.objs.size
      · rw [q, addG_self] at e; cases e; rw [q]; exact ho
      · rw [addG, if_neg q] at e; exact B5.sat b p e
    · rw [addG, if_neg (Ne.symm hddP)]; exact B5.noP
    · rw [addG, if_neg (Ne.symm hdne)]; exact (X5.muOk _ hlocM).1
    · exact none_back K B2 g2 (none_back K B3 g3 (hFm _ hFl).2)
  · rcases List.mem_cons.mp ha with rfl | ha
    · exact none_back K B2 g2 hdd
    · rcases List.mem_append.mp ha with ha | ha
      · exact hfr a ha
      · exact none_back K B2 g2 (none_back K B3 g3 (hFm _ ha).2)

theorem make_list (K : Cok C) {elt : Expr} {gens : List Comprehension} {scope : Scope} : Make C n S' (.ListComp elt gens scope pos) gens (fun dd A => listEmit C A elt (.ref dd)) (fun ρ d => Ev C n S' ρ elt d) (accL C) (newList []) { cls := .type "list", data := .seq #[] } .lst where
  kind := fun dd => kind_list C elt gens scope pos (.ref dd)
  emit := fun dd => emit_list K dd
  new := fun A s Q h => wpAny_newObj_type h
  freed := rfl
  acc0 := fun dd G h hG hP ho _ => ⟨hG, hP, [], ⟨_, ho⟩, .nil⟩
  fin := fun dd G h outs ⟨hG, hP, ys, ⟨k, ho⟩, hr⟩ => ⟨_, ho, fun G' hs hg => .lst hg rfl rfl (hr.mono hs)⟩
theorem make_dict (K : Cok C) {kx vx : Expr} {gens : List Comprehension} {scope : Scope} : Make C n S' (.DictComp kx vx gens scope pos) gens (fun dd A => dictEmit C A kx vx dd) (fun ρ p => Ev C n S' ρ kx (.str p.1) ∧ Ev C n S' ρ vx p.2) (accD C) newDict { cls := .type "dict", data := .dict #[] } (fun outs => .dct (puts outs)) where
  kind := fun dd => kind_dict C kx vx gens scope pos dd
  emit := fun dd => emit_dict K dd
  new := fun A s Q h => by simp only [newDict, newObj]; exact wpAny_bind (wpAny_alloc (wpAny_pure h))
  freed := rfl
  acc0 := fun dd G h hG hP ho hs => ⟨hG, hP, hs, [], by
    obtain ⟨o, ho', hd⟩ := Heap.dictOf_iff.mp (Heap.DictOf.new (knd := strKind C.prog C.w) { objs := #[] })
    have e := Heap.get?_push_size (h := { objs := #[] }) (o := { cls := .type "dict", data := .dict #[] }) rfl
    rw [e] at ho'; cases ho'
    exact Heap.dictOf_iff.mpr ⟨_, ho, hd⟩, .nil⟩
  fin := fun dd G h outs ⟨hG, hP, hs, kvs, hd, hr⟩ => let ⟨o, ho, hdo⟩ := Heap.dictOf_iff.mp hd; ⟨o, ho, fun G' hs' hg => .dct hg hs hdo (hr.mono hs')⟩
end
end Mine

/-! part 14 -/
namespace Mine
section
variable {C : Cx} {n : Nat} {S S' : Sig} {ρ ρc : Rho} {pos p : Pos} {env : Env} {mu F : List Addr} {A : Around} {own : List Str} {G : GMap} {s : Shared}

def NamesOk (names : Sig) : Prop := ∀ y ∈ names, y.2 = .local → names.lookup y.1 = some .local

theorem mid_done (K : Cok C) {L : Addr} {d : D} {acc : Value} {s5 : Shared} (h : MidPost C G s L d acc s5) : ∃ m, s5.heap.Ns L m ∧ ∀ h', Heap.SameBut L s5.heap h' → Post C G s d acc { s5 with heap := h' } := by
  obtain ⟨G5, g5, B5, r5, hL, hP, hN, m, hn⟩ := h
  refine ⟨m, hn, fun h' hs' => ⟨G5, g5.seq (GrS.set C G5 s5 (tk := s5.toks) hs') (fun a ha => .inr (by rw [List.mem_singleton.mp ha]; exact hN)) (fun _ h => nomatch h), B5.set K hL hP hs', r5⟩⟩

theorem ev_comp (K : Cok C) {e : Expr} {scope : Scope} {x : Str} {px : Pos} {iter : Expr} {ifs : List Expr} {gs : List Comprehension} {α : Type} {emitOf : Addr → Around → Env → (Shared → Prop) → Shared → Prop} {Em : Rho → α → Prop}
    {Acc : Addr → GMap → Heap → List α → Prop} {newAcc : Sem Value} {obj : Obj} {res : List α → D} {xs : List D} {out : List α} {cpos : Pos}
    (MK : Make C n S' e (⟨.Name x px, iter, ifs, 0⟩ :: gs) emitOf Em Acc newAcc obj res) (hk : scope.kind = .function) (hnm : NamesOk scope.names) (hsc : ScopeOk scope.names S S' own) (hρ : ∀ p ∈ ρc, Capt ρ scope.names S S' p)
    (hit : It C n S ρ iter xs) (hS : S'.lookup x = some .local ∨ (S'.lookup x = some .cell ∧ x ∈ own)) (hx : ρc.lookup x = none) (hif : ifs.length ≤ 1) (hcx : CX C n S' own Em x ifs gs ρc xs out) (hlen : out.length ≤ 1000)
    (hcl : clausesOf e = ⟨.Name x px, iter, ifs, 0⟩ :: gs) (hf : ∀ env v, foldedSetIterable iter env v = pure v)
    (he : ∀ env, eval e env = comprehension e scope env cpos newAcc false (eval iter env) none) : Ev C n S ρ e (res out) := by
  intro env A mu G s hA B X
  obtain ⟨hclo, hmid⟩ := comp_mid K MK hk hsc hρ hit hS hx hif hcx hlen hA B X
  rw [he]
  refine wpAny_comprehension_free hcl (hf env) hclo hk hnm (wpAny_mono hmid (fun v s1 h1 => wpAny_mono h1 (fun it s2 h2 => wpAny_mono h2 (fun acc s3 h3 => wpAny_mono h3 (fun cenv s4 h4 => ?_) fun _ _ e => e) fun _ _ e => e) fun _ _ e => e) fun _ _ e => e)
  refine codeAny_mono h4 fun r s5 ⟨hr, h5⟩ => ?_
  subst hr
  exact mid_done K h5

theorem ev_listcomp (K : Cok C) {elt : Expr} {scope : Scope} {x : Str} {px : Pos} {iter : Expr} {ifs : List Expr} {gs : List Comprehension} {xs : List D} {out : List D}
    (hk : scope.kind = .function) (hnm : NamesOk scope.names) (hsc : ScopeOk scope.names S S' own) (hρ : ∀ p ∈ ρc, Capt ρ scope.names S S' p)
    (hit : It C n S ρ iter xs) (hf : ∀ env v, foldedSetIterable iter env v = pure v) (hS : S'.lookup x = some .local ∨ (S'.lookup x = some .cell ∧ x ∈ own)) (hx : ρc.lookup x = none) (hif : ifs.length ≤ 1)
    (hcx : CX C n S' own (fun ρ d => Ev C n S' ρ elt d) x ifs gs ρc xs out) (hlen : out.length ≤ 1000) : Ev C n S ρ (.ListComp elt (⟨.Name x px, iter, ifs, 0⟩ :: gs) scope pos) (.lst out) :=
  ev_comp K (make_list K) hk hnm hsc hρ hit hS hx hif hcx hlen rfl hf fun _ => rfl
theorem ev_dictcomp (K : Cok C) {kx vx : Expr} {scope : Scope} {x : Str} {px : Pos} {iter : Expr} {ifs : List Expr} {gs : List Comprehension} {xs : List D} {out : List (Str × D)}
    (hk : scope.kind = .function) (hnm : NamesOk scope.names) (hsc : ScopeOk scope.names S S' own) (hρ : ∀ p ∈ ρc, Capt ρ scope.names S S' p)
    (hit : It C n S ρ iter xs) (hf : ∀ env v, foldedSetIterable iter env v = pure v) (hS : S'.lookup x = some .local ∨ (S'.lookup x = some .cell ∧ x ∈ own)) (hx : ρc.lookup x = none) (hif : ifs.length ≤ 1)
    (hcx : CX C n S' own (fun ρ p => Ev C n S' ρ kx (.str p.1) ∧ Ev C n S' ρ vx p.2) x ifs gs ρc xs out) (hlen : out.length ≤ 1000) : Ev C n S ρ (.DictComp kx vx (⟨.Name x px, iter, ifs, 0⟩ :: gs) scope pos) (.dct (puts out)) :=
  ev_comp (res := fun outs => .dct (puts outs)) K (make_dict K) hk hnm hsc hρ hit hS hx hif hcx hlen rfl hf fun _ => rfl

/-- statements -/
def StP (C : Cx) (S : Sig) (env : Env) (mu : List Addr) (ρ : Rho) (G : GMap) (s : Shared) (s' : Shared) : Prop :=
  ∃ G' mu', GrS C mu G s G' s' ∧ Base C G' s' ∧ EnvOk C S env mu' ρ G' s'.heap ∧ ∀ a ∈ mu', a ∈ mu ∨ s.heap.get? a = none
inductive Out where
  | nx (ρ : Rho)
  | rt (d : D)
def OutOk (C : Cx) (S : Sig) (env : Env) (mu : List Addr) (G : GMap) (s : Shared) : Out → Flow → Shared → Prop
  | .nx ρ, f, s' => f = .next ∧ StP C S env mu ρ G s s'
  | .rt d, f, s' => ∃ v G', f = .ret v ∧ GrS C mu G s G' s' ∧ Base C G' s' ∧ Rep C G' v d
def Ex (C : Cx) (n : Nat) (S : Sig) (ρ : Rho) (st : Stmt) (o : Out) : Prop := ∀ env A mu G s, Room A n → Base C G s → EnvOk C S env mu ρ G s.heap → wpAny (model C.prog C.w) A (exec st env) (OutOk C S env mu G s o) NoE s
def Exs (C : Cx) (n : Nat) (S : Sig) (ρ : Rho) (ss : List Stmt) (o : Out) : Prop := ∀ env A mu G s, Room A n → Base C G s → EnvOk C S env mu ρ G s.heap → wpAny (model C.prog C.w) A (execs ss env) (OutOk C S env mu G s o) NoE s

theorem StP.out {s' : Shared} (h : StP C S env mu ρ G s s') : OutOk C S env mu G s (.nx ρ) .next s' := ⟨rfl, h⟩
theorem OutOk.seq {mu' : List Addr} {G' : GMap} {s' s'' : Shared} {o : Out} {f : Flow} (g : GrS C mu G s G' s') (hm : ∀ a ∈ mu', a ∈ mu ∨ s.heap.get? a = none) (K : Cok C) (B' : Base C G' s') (h : OutOk C S env mu' G' s' o f s'') : OutOk C S env mu G s o f s'' := by
  cases o with
  | nx ρ =>
    obtain ⟨hf, G2, mu2, g2, B2, X2, h2⟩ := h
    refine ⟨hf, G2, mu2, g.seq g2 hm fun _ h => .inl h, B2, X2, fun a ha => ?_⟩
    rcases h2 a ha with q | q
    · exact hm a q
    · by_cases hmm : a ∈ mu
      · exact .inl hmm
      · refine .inr ?_
        cases q1 : s.heap.get? a with
        | none => rfl
        | some o =>
          by_cases hp : a = C.P
          · obtain ⟨o', ho'⟩ := K.tabP _ B'.tab; rw [hp, ho'] at q; cases q
          · have := g.keep a o hmm hp q1; rw [q] at this; cases this
  | rt d =>
    obtain ⟨v, G2, hf, g2, B2, r2⟩ := h
    exact ⟨v, G2, hf, g.seq g2 hm fun _ h => .inl h, B2, r2⟩

theorem exs_nil : Exs C n S ρ [] (.nx ρ) := fun env A mu G s hA B X => wpAny_pure ⟨rfl, G, mu, .refl C mu G s, B, X, fun _ h => .inl h⟩
theorem exs_cons (K : Cok C) {st : Stmt} {rest : List Stmt} {ρ1 : Rho} {o : Out} (h1 : Ex C n S ρ st (.nx ρ1)) (h2 : Exs C n S ρ1 rest o) : Exs C n S ρ (st :: rest) o := by
  intro env A mu G s hA B X
  refine wpAny_execs_cons (wpAny_mono (h1 env A mu G s hA B X) (fun f s1 ⟨hf, G1, mu1, g1, B1, X1, hm⟩ => ?_) fun _ _ e => e)
  subst hf
  exact wpAny_mono (h2 env A mu1 G1 s1 hA B1 X1) (fun f s2 h => h.seq g1 hm K B1) fun _ _ e => e
theorem exs_ret {e : Expr} {rest : List Stmt} {d : D} (h : Ev C n S ρ e d) : Exs C n S ρ (.Return (some e) pos :: rest) (.rt d) := by
  intro env A mu G s hA B X
  refine wpAny_execs_cons (wpAny_Return_some (wpAny_mono (h env A mu G s hA B X) (fun v s1 ⟨G1, g1, B1, r1⟩ => ?_) fun _ _ e => e))
  exact ⟨v, G1, rfl, g1.ex, B1, r1⟩

def Sub (ρ2 ρ1 : Rho) : Prop := ∀ y b, ρ2.lookup y = some b → ρ1.lookup y = some b
theorem exs_weaken {ss : List Stmt} {ρ1 ρ2 : Rho} (h : Exs C n S ρ ss (.nx ρ1)) (hs : Sub ρ2 ρ1) : Exs C n S ρ ss (.nx ρ2) := by
  intro env A mu G s hA B X
  exact wpAny_mono (h env A mu G s hA B X) (fun f s1 ⟨hf, G1, mu1, g1, B1, X1, hm⟩ => ⟨hf, G1, mu1, g1, B1, X1.weaken hs, hm⟩) fun _ _ e => e
theorem exs_pre {ss : List Stmt} {ρ1 : Rho} {o : Out} (h : Exs C n S ρ1 ss o) (hs : Sub ρ1 ρ) : Exs C n S ρ ss o := fun env A mu G s hA B X => h env A mu G s hA B (X.weaken hs)

theorem ex_if {test : Expr} {body orelse : List Stmt} {b : Bool} {o : Out} (h1 : Tst C n S ρ test b) (h2 : Exs C n S ρ (if b then body else orelse) o) (K : Cok C) : Ex C n S ρ (.If test body orelse pos) o := by
  intro env A mu G s hA B X
  refine wpAny_If (wpAny_mono (h1 env A mu G s hA B X) (fun r s1 ⟨hr, G1, g1, B1⟩ => ?_) fun _ _ e => e)
  subst hr
  have := wpAny_mono (h2 env A mu G1 s1 hA B1 (X.grow g1)) (fun f s2 h => h.seq (mu := mu) g1.ex (fun _ h => .inl h) K B1) fun _ _ e => e
  cases r
  · simpa using this
  · simpa using this

/-- x = e -/
theorem ex_assign (K : Cok C) {x : Str} {px : Pos} {e : Expr} {d : D} (hS : S.lookup x = some .local ∨ S.lookup x = some .cell) (h : Ev C n S ρ e d)
    (hsw : ∀ env, env.scope.names = S → swapsWith e (some (.Name x px)) pos.line env = pure false) : Ex C n S ρ (.Assign [.Name x px] e pos) (.nx ((x, .v d) :: ρ)) := by
  intro env A mu G s hA B X
  refine wpAny_Assign_Name (wpAny_mono (h env A mu G s hA B X) (fun v s1 ⟨G1, g1, B1, r1⟩ => ?_) fun _ _ e => e) (hsw env X.names)
  have X1 := X.grow g1
  refine store_var K B1 X1 hS fun a s2 ha _ _ g2 B2 hX2 _ _ _ => ?_
  have ham : a ∈ mu := by
    rcases ha with rfl | ha
    · exact X.locMu
    · exact (X.cells x a ha).2
  exact ⟨rfl, G1, mu, g1.seq g2 (fun b hb => by rw [List.mem_singleton.mp hb]; exact .inl ham) (fun _ h => nomatch h), B2, hX2 d r1, fun _ h => .inl h⟩

/-- x = [..] and x = {..}, the stores exchanged -/
theorem ex_assign_comp (K : Cok C) {y : Str} {py : Pos} {e : Expr} {scope : Scope} {x : Str} {px : Pos} {iter : Expr} {ifs : List Expr} {gs : List Comprehension} {α : Type} {emitOf : Addr → Around → Env → (Shared → Prop) → Shared → Prop} {Em : Rho → α → Prop}
    {Acc : Addr → GMap → Heap → List α → Prop} {newAcc : Sem Value} {obj : Obj} {res : List α → D} {xs : List D} {out : List α} {cpos : Pos}
    (MK : Make C n S' e (⟨.Name x px, iter, ifs, 0⟩ :: gs) emitOf Em Acc newAcc obj res) (hk : scope.kind = .function) (hnm : NamesOk scope.names) (hsc : ScopeOk scope.names S S' own) (hρ : ∀ p ∈ ρc, Capt ρ scope.names S S' p)
    (hit : It C n S ρ iter xs) (hS : S'.lookup x = some .local ∨ (S'.lookup x = some .cell ∧ x ∈ own)) (hx : ρc.lookup x = none) (hif : ifs.length ≤ 1) (hcx : CX C n S' own Em x ifs gs ρc xs out) (hlen : out.length ≤ 1000)
    (hcl : clausesOf e = ⟨.Name x px, iter, ifs, 0⟩ :: gs) (hf : ∀ env v, foldedSetIterable iter env v = pure v)
    (hy : S.lookup y = some .local) (hsw : ∀ env, env.scope.kind = .function → env.scope.names = S → swapsWith e (some (.Name y py)) pos.line env = pure true)
    (he : ∀ env u, evalThenUse e env u = (comprehension e scope env cpos newAcc false (eval iter env) (some u) >>= fun _ => pure ())) : Ex C n S ρ (.Assign [.Name y py] e pos) (.nx ((y, .v (res out)) :: ρ)) := by
  intro env A mu G s hA B X
  obtain ⟨hclo, hmid⟩ := comp_mid K MK hk hsc hρ hit hS hx hif hcx hlen hA B X
  rw [exec_Assign_Name_used _ _ _ _ (hsw env X.fn X.names), he]
  refine wpAny_bind (wpAny_standAt (wpAny_bind (wpAny_bind ?_)))
  refine wpAny_mono (wpAny_comprehension_free (Q := fun _ s' => OutOk C S env mu G s (.nx ((y, .v (res out)) :: ρ)) .next s') hcl (hf env) hclo hk hnm (wpAny_mono hmid (fun v s1 h1 => wpAny_mono h1 (fun it s2 h2 => wpAny_mono h2 (fun acc s3 h3 => wpAny_mono h3 (fun cenv s4 h4 => ?_) fun _ _ e => e) fun _ _ e => e) fun _ _ e => e) fun _ _ e => e))
    (fun _ s' h => wpAny_pure (wpAny_pure h)) fun _ _ e => e
  refine codeAny_mono h4 fun r s5 ⟨hr, G5, g5, B5, r5, hL, hP, hN, m, hn⟩ => ?_
  subst hr
  show wpAny _ A (assign (.Name y py) env acc) _ _ s5
  have X5 := X.grow g5
  refine wpAny_assign_Name (store_var K B5 X5 (.inl hy) fun a s6 ha hal _ g6 B6 hX6 _ _ _ => ?_)
  have haL : a = env.locals := hal hy
  subst haL
  have hLne : cenv.locals ≠ env.locals := fun e => by
    obtain ⟨_, _, o, ho⟩ := X.muOk _ X.locMu
    rw [← e, hN] at ho; cases ho
  have hn6 : s6.heap.Ns cenv.locals m := hn.at' fun o e => g6.keep _ _ (fun h => hLne (List.mem_singleton.mp h)) hP e
  refine ⟨m, hn6, fun h' hs' => ?_⟩
  have X6 := hX6 _ r5
  have g7 := GrS.set C G5 s6 (tk := s6.toks) hs'
  have X7 := X6.grow' g7 fun a ha hm => by
    rw [List.mem_singleton.mp ha] at hm
    obtain ⟨_, _, o, ho⟩ := X.muOk _ hm
    rw [hN] at ho; cases ho
  refine ⟨rfl, G5, mu, g5.seq (mu' := mu) (g6.seq (mu' := cenv.locals :: mu) g7 (fun a ha => .inl (by rw [List.mem_singleton.mp ha]; exact List.mem_cons_self)) fun a ha => .inl (by rw [List.mem_singleton.mp ha]; exact List.mem_cons_of_mem _ X.locMu)) (fun a ha => ?_) (fun _ h => nomatch h), B6.set K hL hP hs', X7, fun _ h => .inl h⟩
  rcases List.mem_cons.mp ha with rfl | ha
  · exact .inr hN
  · exact .inl ha
end
end Mine

/-! part 15 -/
namespace Mine
section
variable {C : Cx} {n : Nat} {S S' : Sig} {ρ ρc : Rho} {pos p : Pos} {env : Env} {mu F : List Addr} {A : Around} {own : List Str} {G : GMap} {s : Shared}

/-- no name but x holds a dict of one's own -/
def OnlyOwn (ρ : Rho) (x : Str) : Prop := ∀ y l, ρ.lookup y = some (.own l) → y = x

/-- x = {} -/
theorem ex_newdict (K : Cok C) {x : Str} {px dp : Pos} (hS : S.lookup x = some .local ∨ S.lookup x = some .cell) : Ex C n S ρ (.Assign [.Name x px] (.Dict [] [] dp) pos) (.nx ((x, .own []) :: ρ)) := by
  intro env A mu G s hA B X
  refine wpAny_Assign_Name (wpAny_Dict_empty ?_) rfl
  have hdd : s.heap.get? s.heap.objs.size = none := get_size _
  have hddP : s.heap.objs.size ≠ C.P := fun e => by obtain ⟨o, ho⟩ := K.tabP _ B.tab; rw [e, ho] at hdd; cases hdd
  obtain ⟨g1, B1⟩ := grown_none K.tabLocal B (tk := s.toks) (h' := s.heap.push { cls := .type "dict", data := .dict #[] }) fun _ _ e => Heap.get?_push_of_some _ e
  have X1 := X.grow g1
  have hG : G s.heap.objs.size = none := B.fresh hdd
  refine store_var K B1 X1 hS fun a s2 ha _ _ g2 B2 _ hoth hv X0 => ?_
  have ham : a ∈ mu := by
    rcases ha with rfl | ha
    · exact X.locMu
    · exact (X1.cells x a ha).2
  have hne : s.heap.objs.size ≠ a := fun e => by obtain ⟨_, _, o, ho⟩ := X.muOk a ham; rw [← e, hdd] at ho; cases ho
  obtain ⟨o, ho, hd⟩ := Heap.dictOf_iff.mp (Heap.DictOf.new (knd := strKind C.prog C.w) s.heap)
  have ho2 : s2.heap.get? s.heap.objs.size = some o := g2.keep _ _ (fun h => hne (List.mem_singleton.mp h)) hddP ho
  have hloc : s.heap.objs.size ≠ env.locals := fun e => by obtain ⟨_, _, o, ho⟩ := X.muOk _ X.locMu; rw [← e, hdd] at ho; cases ho
  refine ⟨rfl, G, s.heap.objs.size :: mu, g1.seq g2 (fun b hb => .inl (by rw [List.mem_singleton.mp hb]; exact ham)) (fun _ h => nomatch h), B2, ?_, fun b hb => ?_⟩
  · refine { X0 with locMu := List.mem_cons_of_mem _ X0.locMu, cells := fun y c hc => ⟨(X0.cells y c hc).1, List.mem_cons_of_mem _ (X0.cells y c hc).2⟩, muOk := fun b hb => ?_, vars := fun y b hb => ?_ }
    · rcases List.mem_cons.mp hb with rfl | hb
      · exact ⟨hG, hddP, o, ho2⟩
      · exact X0.muOk b hb
    · rw [List.lookup_cons] at hb
      by_cases q : y = x
      · subst q
        rw [beq_self_eq_true] at hb
        cases hb
        exact ⟨_, hv, List.mem_cons_self, hloc, not_sys K B, o, [], ho2, hd, .nil⟩
      · have q' : (y == x) = false := by simpa using q
        rw [q'] at hb
        have := hoth y b q hb
        cases b with
        | v d => exact this
        | own l => obtain ⟨a, h1, h2, h3⟩ := this; exact ⟨a, h1, List.mem_cons_of_mem _ h2, h3⟩
  · rcases List.mem_cons.mp hb with rfl | hb
    · exact .inr hdd
    · exact .inl hb

/-- a dict of one's own takes an item -/
theorem set_own (K : Cok C) (B : Base C G s) (X : EnvOk C S env mu ρ G s.heap) {x : Str} {l : List (Str × D)} {a : Addr} {k : Str} {u : Tok} {v : Value} {d : D} (ho : OnlyOwn ρ x) (hv : VarIs env s.heap x (.ref a)) (ham : a ∈ mu) (hal : a ≠ env.locals)
    (hsm : (a == sysModules) = false) (hd : ∃ o kvs, s.heap.get? a = some o ∧ o.IsDictOf (strKind C.prog C.w) kvs ∧ RepE C G kvs l) (hr : Rep C G v d) (hlen : l.length ≤ 1000) :
    wpAny (model C.prog C.w) A (setItem (.ref a) (.str k u) v) (fun _ s' => StP C S env mu ((x, .own (dput l k d)) :: ρ) G s s') NoE s := by
  obtain ⟨o, kvs, ho', hdo, hrE⟩ := hd
  obtain ⟨hGa, haP, _⟩ := X.muOk a ham
  refine wpAny_setItem_pairs (strKind_is C.prog C.w k u) (Heap.dictOf_iff.mpr ⟨o, ho', hdo⟩) (fun h' hd' hs' => ?_) (by rw [hrE.length, sizeLine_eq]; omega)
  have g := GrS.set C G s (tk := s.toks + 1) hs'
  obtain ⟨o2, ho2, hd2⟩ := Heap.dictOf_iff.mp hd'
  obtain ⟨m, hn⟩ := X.ns
  have hn' : h'.Ns env.locals m := hn.sameBut hs' (Ne.symm hal)
  have hcell : ∀ y c v, env.cells.lookup y = some c → s.heap.IsCell c v → h'.IsCell c v := fun y c v hc hv => hv.sameBut hs' (Ne.symm (dict_cell_apart hv ho' hdo))
  have hvar : ∀ y v, VarIs env s.heap y v → VarIs env h' y v := by
    intro y v hv
    unfold VarIs at hv ⊢
    cases hky : env.kindOf y with
    | none => rw [hky] at hv; exact hv
    | some k =>
      rw [hky] at hv
      cases k with
      | «local» => obtain ⟨m2, hn2, hm2⟩ := hv; exact ⟨m2, hn2.sameBut hs' (Ne.symm hal), hm2⟩
      | cell => obtain ⟨c, e, hi⟩ := hv; exact ⟨c, e, hcell y c _ e hi⟩
      | free => obtain ⟨c, e, hi⟩ := hv; exact ⟨c, e, hcell y c _ e hi⟩
      | globalExplicit => exact hv
      | globalImplicit => exact hv
  refine ⟨G, mu, g.mono (fun b hb => by rw [List.mem_singleton.mp hb]; exact ham), B.set K hGa haP hs', ⟨X.fn, X.names, X.glob, X.blt, ⟨m, hn'⟩, X.locMu, fun y c hc => ?_, X.has, X.inj, fun b hb => ?_, fun y b hb => ?_, X.code⟩, fun _ h => .inl h⟩
  · obtain ⟨⟨v, hv⟩, hm⟩ := X.cells y c hc
    exact ⟨⟨v, hcell y c v hc hv⟩, hm⟩
  · obtain ⟨h1, h2, p, h3⟩ := X.muOk b hb
    refine ⟨h1, h2, ?_⟩
    by_cases q : b = a
    · rw [q]; exact ⟨o2, ho2⟩
    · exact ⟨p, hs'.extBut b p q h3⟩
  · rw [List.lookup_cons] at hb
    by_cases q : y = x
    · subst q
      rw [beq_self_eq_true] at hb
      cases hb
      exact ⟨a, hvar _ _ hv, ham, hal, hsm, o2, _, ho2, hd2, hrE.put hr⟩
    · have q' : (y == x) = false := by simpa using q
      rw [q'] at hb
      cases b with
      | v d2 => obtain ⟨v2, hv2, hr2⟩ := X.vars y _ hb; exact ⟨v2, hvar _ _ hv2, hr2⟩
      | own l2 => exact absurd (ho y l2 hb) q

theorem VarIs.uniq {h : Heap} {x : Str} {v v' : Value} (h1 : VarIs env h x v) (h2 : VarIs env h x v') : v = v' := by
  unfold VarIs at h1 h2
  cases hk : env.kindOf x with
  | none => rw [hk] at h1; exact h1.elim
  | some k =>
    rw [hk] at h1 h2
    cases k with
    | «local» =>
      obtain ⟨m, ⟨o, es, ep, ho, hd, _, hf⟩, hm⟩ := h1
      obtain ⟨m', ⟨o', es', ep', ho', hd', _, hf'⟩, hm'⟩ := h2
      rw [ho] at ho'; cases ho'; rw [hd] at hd'; cases hd'
      rw [← hf, ] at hm; rw [← hf'] at hm'; rw [hm] at hm'; exact Option.some.inj hm'
    | cell =>
      obtain ⟨c, e, o, ho, hd⟩ := h1
      obtain ⟨c', e', o', ho', hd'⟩ := h2
      rw [e] at e'; cases e'; rw [ho] at ho'; cases ho'; rw [hd] at hd'; cases hd'; rfl
    | free =>
      obtain ⟨c, e, o, ho, hd⟩ := h1
      obtain ⟨c', e', o', ho', hd'⟩ := h2
      rw [e] at e'; cases e'; rw [ho] at ho'; cases ho'; rw [hd] at hd'; cases hd'; rfl
    | globalExplicit => exact h1.elim
    | globalImplicit => exact h1.elim

/-- x[k] = e -/
theorem ex_setitem (K : Cok C) {x : Str} {px sp : Pos} {i e : Expr} {l : List (Str × D)} {k : Str} {d : D} (hx : ρ.lookup x = some (.own l)) (ho : OnlyOwn ρ x) (h1 : Ev C n S ρ e d) (h2 : Ev C n S ρ i (.str k)) (hlen : l.length ≤ 1000)
    (hsw : ∀ env, swapsWith e (some (.Subscript (.Name x px) i sp)) pos.line env = pure false) (hd : (x == ("__debug__" : Str)) = false := by decide) (hc : (x == ("__classdict__" : Str)) = false := by decide) :
    Ex C n S ρ (.Assign [.Subscript (.Name x px) i sp] e pos) (.nx ((x, .own (dput l k d)) :: ρ)) := by
  intro env A mu G s hA B X
  refine wpAny_Assign_Subscript (wpAny_mono (h1 env A mu G s hA B X) (fun v s1 ⟨G1, g1, B1, r1⟩ => ?_) fun _ _ e => e) (hsw env)
  have X1 := X.grow g1
  refine ev_own_ref X1 hx hd hc fun a ham hal hsm hdd hv => ?_
  refine wpAny_mono (h2 env A mu G1 s1 hA B1 X1) (fun kv s2 ⟨G2, g2, B2, r2⟩ => ?_) fun _ _ e => e
  have X2 := X1.grow g2
  cases r2 with
  | str _ u =>
  obtain ⟨a', hv', ham', hal', hsm', hdd'⟩ := X2.vars x _ hx
  have hva : VarIs env s2.heap x (.ref a) := hv.keep (fun o e => g2.keep _ o (fun h => nomatch h) (X1.muOk _ X1.locMu).2.1 e) fun c o hc e => g2.keep _ o (fun h => nomatch h) (X1.muOk _ (X1.cells x c hc).2).2.1 e
  have haa : a' = a := by have := hv'.uniq hva; cases this; rfl
  subst haa
  refine wpAny_mono (set_own (A := A) K B2 X2 ho hv' ham' hal' hsm' hdd' (r1.grow g2) hlen) (fun _ s3 ⟨G3, mu3, g3, B3, X3, hm⟩ => ?_) fun _ _ e => e
  exact ⟨rfl, G3, mu3, (g1.trans g2).seq g3 (fun _ h => .inl h) (fun _ h => nomatch h), B3, X3, fun b hb => (hm b hb).imp id fun q => none_back K B2 (g1.trans g2) q⟩

/-- x += e of ints -/
theorem ex_aug_int (K : Cok C) {x : Str} {px : Pos} {e : Expr} {a b : Int} (hS : S.lookup x = some .local) (hx : ρ.lookup x = some (.v (.int a))) (h : Ev C n S ρ e (.int b)) : Ex C n S ρ (.AugAssign (.Name x px) .Add e pos) (.nx ((x, .v (.int (a + b))) :: ρ)) := by
  intro env A mu G s hA B X
  obtain ⟨v, hv, hr⟩ := X.vars x _ hx
  unfold VarIs at hv
  rw [(X.kind x).trans hS] at hv
  obtain ⟨m, hn, hm⟩ := hv
  refine wpAny_AugAssign_Name (wpAny_loadName_local X.fn ((X.kind x).trans hS) hn hm ?_)
  refine wpAny_mono (h env A mu G s hA B X) (fun w s1 ⟨G1, g1, B1, r1⟩ => ?_) fun _ _ e => e
  have X1 := X.grow g1
  cases hr; cases r1
  refine AutoIntOps.iadd_0 ?_
  have g2 := GrS.tok C [] G1 s1 (s1.toks + 1)
  refine store_var K (B1.tok (s1.toks + 1)) (X1.grow g2) (.inl hS) fun a s2 ha _ _ g3 B3 hX3 _ _ _ => ?_
  have ham : a ∈ mu := by
    rcases ha with rfl | ha
    · exact X.locMu
    · exact (X1.cells x a ha).2
  exact ⟨rfl, G1, mu, (g1.trans g2).seq g3 (fun b hb => .inl (by rw [List.mem_singleton.mp hb]; exact ham)) (fun _ h => nomatch h), B3, hX3 _ (.int _ _), fun _ h => .inl h⟩

def IaddOk (C : Cx) (d1 d2 d : D) : Prop := ∀ A G s v1 v2, Base C G s → Rep C G v1 d1 → Rep C G v2 d2 → wpAny (model C.prog C.w) A (inplaceOp .Add v1 v2) (Post C G s d) NoE s
theorem iadd_ints {a b : Int} : IaddOk C (.int a) (.int b) (.int (a + b)) := by
  intro A G s v1 v2 B r1 r2
  cases r1; cases r2
  exact AutoIntOps.iadd_0 (Post.tok B (.int _ _))
theorem iadd_strs {x y : Str} (h : x.length + y.length ≤ 1000000) : IaddOk C (.str x) (.str y) (.str (x ++ y)) := by
  intro A G s v1 v2 B r1 r2
  cases r1; cases r2
  exact SB.iadd (fun t' k => Post.tok B (.str _ _)) (by rw [sizeLine_eq]; omega)

/-- x[i] += e -/
theorem ex_aug_item (K : Cok C) {x i : Str} {px ip sp : Pos} {e : Expr} {l : List (Str × D)} {k : Str} {d0 d1 d : D} (hx : ρ.lookup x = some (.own l)) (ho : OnlyOwn ρ x) (h1 : Ev C n S ρ (.Name i ip) (.str k)) (hk : dget l k = some d0)
    (h2 : Ev C n S ρ e d1) (hadd : IaddOk C d0 d1 d) (hlen : l.length ≤ 1000) (hd : (x == ("__debug__" : Str)) = false := by decide) (hc : (x == ("__classdict__" : Str)) = false := by decide) :
    Ex C n S ρ (.AugAssign (.Subscript (.Name x px) (.Name i ip) sp) .Add e pos) (.nx ((x, .own (dput l k d)) :: ρ)) := by
  intro env A mu G s hA B X
  refine wpAny_AugAssign_Subscript (ev_own_ref X hx hd hc fun a ham hal hsm hdd hv => ?_)
  refine wpAny_mono (h1 env A mu G s hA B X) (fun kv s2 ⟨G2, g2, B2, r2⟩ => ?_) fun _ _ e => e
  have X2 := X.grow g2
  have toA : ∀ {G' s'}, GrS C [] G s G' s' → VarIs env s'.heap x (.ref a) := fun {G' s'} g => hv.keep (fun o e => g.keep _ o (fun h => nomatch h) (X.muOk _ X.locMu).2.1 e) fun c o hc e => g.keep _ o (fun h => nomatch h) (X.muOk _ (X.cells x c hc).2).2.1 e
  cases r2 with
  | str _ u =>
  obtain ⟨a', hv', ham', hal', hsm', o, kvs, ho2, hdo2, hrE⟩ := X2.vars x _ hx
  have haa : a' = a := by have := hv'.uniq (toA g2); cases this; rfl
  subst haa
  rcases hrE.at k with ⟨_, e2⟩ | ⟨v0, d', e1, e2, e3⟩
  · rw [hk] at e2; cases e2
  · rw [hk] at e2; cases e2
    have hD : s2.heap.DictOf (strKind C.prog C.w) a' kvs := Heap.dictOf_iff.mpr ⟨o, ho2, hdo2⟩
    refine wpAny_getItem_of (strKind_is C.prog C.w k _) hD.mapOf e1 ?_
    have g3 := g2.trans (GrS.tok C [] G2 s2 (s2.toks + 1))
    have B3 := B2.tok (s2.toks + 1)
    refine wpAny_mono (h2 env A mu G2 _ hA B3 (X.grow g3)) (fun w s4 ⟨G4, g4, B4, r4⟩ => ?_) fun _ _ e => e
    refine wpAny_mono (hadd A G4 s4 v0 w B4 (e3.grow g4) r4) (fun nv s5 ⟨G5, g5, B5, r5⟩ => ?_) fun _ _ e => e
    have g := g3.trans (g4.trans g5)
    have X5 := X.grow g
    obtain ⟨a5, hv5, ham5, hal5, hsm5, hdd5⟩ := X5.vars x _ hx
    have haa : a5 = a' := by have := hv5.uniq (toA g); cases this; rfl
    subst haa
    refine wpAny_mono (set_own (A := A) K B5 X5 ho hv5 ham5 hal5 hsm5 hdd5 r5 hlen) (fun _ s6 ⟨G6, mu6, g6, B6, X6, hm⟩ => ?_) fun _ _ e => e
    exact ⟨rfl, G6, mu6, g.seq g6 (fun _ h => .inl h) (fun _ h => nomatch h), B6, X6, fun b hb => (hm b hb).imp id fun q => none_back K B5 g q⟩

/-- a dict of one's own is frozen -/
theorem exs_freeze (K : Cok C) {x : Str} {l : List (Str × D)} {ss : List Stmt} {o : Out} (hx : ρ.lookup x = some (.own l)) (ho : OnlyOwn ρ x) (h : Exs C n S ((x, .v (.dct l)) :: ρ) ss o) : Exs C n S ρ ss o := by
  intro env A mu G s hA B X
  obtain ⟨a, hv, ham, hal, hsm, ob, kvs, hob, hdo, hrE⟩ := X.vars x _ hx
  obtain ⟨hGa, haP, _⟩ := X.muOk a ham
  have sub := addG_sub (G := G) (a := a) (o := ob) hGa
  have g : GrS C mu G s (addG G a ob) s := ⟨fun _ _ _ _ e => e, rfl, sub, fun b o e => by
    by_cases q : b = a
    · exact .inr (.inr (q ▸ ham))
    · rw [addG, if_neg q] at e; exact .inl e, fun h => by rw [addG, if_neg (Ne.symm haP)]; exact h⟩
  have B' : Base C (addG G a ob) s := ⟨fun b o e => by
    by_cases q : b = a
    · rw [q, addG_self] at e; cases e; rw [q]; exact hob
    · rw [addG, if_neg q] at e; exact B.sat b o e, fun b o hb e => sub b o (B.top b o hb e), by rw [addG, if_neg (Ne.symm haP)]; exact B.noP, B.tab, B.gens⟩
  have hcne : ∀ y c, env.cells.lookup y = some c → c ≠ a := fun y c hc => by
    obtain ⟨⟨v, hv⟩, _⟩ := X.cells y c hc
    exact Ne.symm (dict_cell_apart hv hob hdo)
  have hmem : ∀ b, b ∈ mu.filter (fun b => b ≠ a) ↔ b ∈ mu ∧ b ≠ a := fun b => by simp
  have X' : EnvOk C S env (mu.filter (fun b => b ≠ a)) ((x, .v (.dct l)) :: ρ) (addG G a ob) s.heap := by
    refine ⟨X.fn, X.names, X.glob, X.blt, X.ns, (hmem _).mpr ⟨X.locMu, Ne.symm hal⟩, fun y c hc => ⟨(X.cells y c hc).1, (hmem _).mpr ⟨(X.cells y c hc).2, hcne y c hc⟩⟩, X.has, X.inj, fun b hb => ?_, fun y b hb => ?_, X.code⟩
    · obtain ⟨h1, h2⟩ := (hmem _).mp hb
      obtain ⟨q1, q2, q3⟩ := X.muOk b h1
      exact ⟨by rw [addG, if_neg h2]; exact q1, q2, q3⟩
    · rw [List.lookup_cons] at hb
      by_cases q : y = x
      · subst q
        rw [beq_self_eq_true] at hb
        cases hb
        exact ⟨_, hv, .dct addG_self hsm hdo (hrE.mono sub)⟩
      · have q' : (y == x) = false := by simpa using q
        rw [q'] at hb
        cases b with
        | v d2 => obtain ⟨v2, hv2, hr2⟩ := X.vars y _ hb; exact ⟨v2, hv2, hr2.mono sub⟩
        | own l2 => exact absurd (ho y l2 hb) q
  exact wpAny_mono (h env A _ _ s hA B' X') (fun f s2 h2 => h2.seq g (fun b hb => .inl ((hmem b).mp hb).1) K B') fun _ _ e => e

/-- for x in iter: body -/
theorem ex_for (K : Cok C) {x : Str} {px : Pos} {iter : Expr} {body : List Stmt} {xs : List D} (R : Nat → Rho) (hit : It C n S ρ iter xs) (hf : ∀ env v, foldedSetIterable iter env v = pure v) (hS : S.lookup x = some .local ∨ S.lookup x = some .cell)
    (h0 : Sub (R 0) ρ) (hb : ∀ i d, xs[i]? = some d → Exs C n S ((x, .v d) :: R i) body (.nx (R (i + 1)))) : Ex C n S ρ (.For (.Name x px) iter body [] pos) (.nx (R xs.length)) := by
  intro env A mu G s hA B X
  refine wpAny_For (wpAny_mono (hit env A mu G s hA B X) (fun v s1 h1 => wpAny_mono h1 (fun it s2 ⟨G2, wr, g2, B2, I2, hfr⟩ => ?_) fun _ _ e => e) fun _ _ e => e) (hf env)
  have key : ∀ (ys : List D) (i : Nat), xs.drop i = ys → i ≤ xs.length → ∀ (mu : List Addr) (G : GMap) (s : Shared) (it : Value) (wr : List Addr), Base C G s → EnvOk C S env mu (R i) G s.heap → ItAt C G s.heap it wr ys → (∀ b ∈ wr, b ∉ mu) →
      codeAny (model C.prog C.w) A (.forLoop (.Name x px) it body [] env) (fun r s' => r = .ok .next ∧ ∃ G' mu', GrS C (wr ++ mu) G s G' s' ∧ Base C G' s' ∧ EnvOk C S env mu' (R xs.length) G' s'.heap ∧ ∀ a ∈ mu', a ∈ mu ∨ s.heap.get? a = none) s := by
    intro ys
    induction ys with
    | nil =>
      intro i hi hle mu G s it wr B X I hwr
      refine codeAny_of_tree ?_
      show wpAny _ A ((forTurn (.Name x px) it body [] env).onRaise (fun x => do noteFrame x env; theTreesLotGoes x)) _ _ s
      refine wpAny_noted ?_
      simp only [forTurn]
      refine wpAny_bind (wpAny_standAt (wpAny_bind (wpAny_onRaise (I.done K hA.1 B fun s' g' B' => ?_))))
      refine wpAny_pure ⟨rfl, codeAny_block (wpAny_pure ⟨rfl, G, mu, g'.mono fun a ha => List.mem_append_left _ ha, B', ?_, fun _ h => .inl h⟩)⟩
      have X' := X.grow' g' hwr
      have hi' : xs.length ≤ i := List.drop_eq_nil_iff.mp hi
      have hii : i = xs.length := by omega
      subst hii
      exact X'
    | cons d ds ih =>
      intro i hi hle mu G s it wr B X I hwr
      have hd : xs[i]? = some d := by
        have : (xs.drop i)[0]? = some d := by rw [hi]; rfl
        rwa [List.getElem?_drop] at this
      have hds : xs.drop (i + 1) = ds := by
        have : (xs.drop i).drop 1 = ds := by rw [hi]; rfl
        rwa [List.drop_drop] at this
      have hle1 : i + 1 ≤ xs.length := by
        rcases Nat.lt_or_ge i xs.length with h | h
        · exact h
        · rw [List.getElem?_eq_none h] at hd; cases hd
      refine codeAny_of_tree ?_
      show wpAny _ A ((forTurn (.Name x px) it body [] env).onRaise (fun x => do noteFrame x env; theTreesLotGoes x)) _ _ s
      refine wpAny_noted ?_
      simp only [forTurn]
      refine wpAny_bind (wpAny_standAt (wpAny_bind (wpAny_onRaise (I.next K hA.1 B fun v s1 g1 B1 r1 I1 => ?_))))
      have X1 := X.grow' g1 hwr
      refine wpAny_bind (wpAny_of_eq (show letOwnedTupleGo (.Name x px) it v = pure () from rfl) ?_)
      refine wpAny_bind (wpAny_assign_Name (store_var K B1 X1 hS fun a s2 ha _ _ g2 B2 hX2 _ _ _ => ?_))
      have ham : a ∈ mu := by
        rcases ha with rfl | ha
        · exact X.locMu
        · exact (X1.cells x a ha).2
      have X2 := hX2 d r1
      have nu2 : ∀ b ∈ [a], b ∈ mu := fun b hb => by rw [List.mem_singleton.mp hb]; exact ham
      have I2 := I1.grow g2 (fun b hb h => hwr b hb (nu2 b h)) fun b hb => (X1.muOk b (nu2 b hb)).1
      have hwal : ∀ b ∈ wr, ∃ o, s2.heap.get? b = some o := fun b hb => by
        obtain ⟨I, fp, n, P, St, i, e, W, hst, hn, hfp, _, hal, _⟩ := I2
        exact hal i _ hst b ((W { handled := none } rfl).sub b hb)
      refine wpAny_bind (wpAny_mono (hb i d hd env A mu G s2 hA B2 X2) (fun f s3 ⟨hfn, G3, mu3, g3, B3, X3, hm3⟩ => ?_) fun _ _ e => e.elim)
      subst hfn
      have hwr3 : ∀ b ∈ wr, b ∉ mu3 := fun b hb h => by
        rcases hm3 b h with q | q
        · exact hwr b hb q
        · obtain ⟨o, ho⟩ := hwal b hb; rw [ho] at q; cases q
      have I3 := I2.grow g3 (fun b hb h => hwr b hb h) fun b hb => (X2.muOk b hb).1
      have g12 : GrS C (wr ++ mu) G s G s2 := g1.seq g2 (fun b hb => .inl (List.mem_append_right _ (nu2 b hb))) (fun b hb => .inl (List.mem_append_left _ hb))
      have g13 : GrS C (wr ++ mu) G s G3 s3 := g12.seq g3 (fun b hb => .inl (List.mem_append_right _ hb)) fun b hb => .inl hb
      have back : ∀ b, s2.heap.get? b = none → s.heap.get? b = none := fun b q => by
        cases q1 : s.heap.get? b with
        | none => rfl
        | some o =>
          by_cases hin : b ∈ wr ++ mu
          · rcases List.mem_append.mp hin with h | h
            · obtain ⟨o', ho'⟩ := hwal b h; rw [ho'] at q; cases q
            · obtain ⟨_, _, o', ho'⟩ := X2.muOk b h; rw [ho'] at q; cases q
          · by_cases hp : b = C.P
            · obtain ⟨o', ho'⟩ := K.tabP _ B2.tab; rw [hp, ho'] at q; cases q
            · have := g12.keep b o hin hp q1; rw [q] at this; cases this
      have hm3' : ∀ b ∈ mu3, b ∈ mu ∨ s.heap.get? b = none := fun b hb => (hm3 b hb).imp id (back b)
      refine wpAny_pure ⟨rfl, codeAny_mono (ih (i + 1) hds hle1 mu3 G3 s3 it wr B3 X3 I3 hwr3) fun r s4 ⟨hr, G4, mu4, g4, B4, X4, hm4⟩ => ?_⟩
      refine ⟨hr, G4, mu4, g13.seq g4 (fun b hb => ?_) (fun b hb => .inl hb), B4, X4, fun b hb => ?_⟩
      · rcases List.mem_append.mp hb with h | h
        · exact .inl (List.mem_append_left _ h)
        · exact (hm3' b h).imp (fun q => List.mem_append_right _ q) id
      · rcases hm4 b hb with h | h
        · exact hm3' b h
        · cases q1 : s.heap.get? b with
          | none => exact .inr rfl
          | some o =>
            by_cases hin : b ∈ wr ++ mu
            · rcases List.mem_append.mp hin with h' | h'
              · obtain ⟨o', ho'⟩ := hwal b h'
                by_cases hp : b = C.P
                · obtain ⟨o', ho'⟩ := K.tabP _ B3.tab; rw [hp, ho'] at h; cases h
                · have := g3.keep b o' (hwr b h') hp ho'; rw [h] at this; cases this
              · exact .inl h'
            · by_cases hp : b = C.P
              · obtain ⟨o', ho'⟩ := K.tabP _ B3.tab; rw [hp, ho'] at h; cases h
              · have := g13.keep b o hin hp q1; rw [h] at this; cases this
  have X2 := X.grow g2
  have hwr : ∀ b ∈ wr, b ∉ mu := fun b hb h => by obtain ⟨_, _, o, ho⟩ := X.muOk b h; rw [hfr b hb] at ho; cases ho
  refine codeAny_mono (key xs 0 rfl (Nat.zero_le _) mu G2 s2 it wr B2 (X2.weaken h0) I2 hwr) fun r s3 ⟨hr, G3, mu3, g3, B3, X3, hm3⟩ => ?_
  subst hr
  refine ⟨rfl, G3, mu3, g2.seq g3 (fun b hb => ?_) (fun _ h => nomatch h), B3, X3, fun b hb => (hm3 b hb).imp id fun q => none_back K B2 g2 q⟩
  rcases List.mem_append.mp hb with h | h
  · exact .inr (hfr b h)
  · exact .inl h
end
end Mine

/-! part 16 -/
namespace Mine
section
variable {C : Cx} {n : Nat} {S S' : Sig} {ρ ρc : Rho} {pos p : Pos} {env : Env} {mu F : List Addr} {A : Around} {own : List Str} {G : GMap} {s : Shared}

def FunAt (C : Cx) (a : Addr) (name : Str) (params : Arguments) (body : List Stmt) (scope : Scope) : Prop :=
  ∃ o pm c doc, C.h.get? a = some o ∧ a ≠ C.P ∧ o.data = .func (docDef name params body scope pm (.ref c) doc) ∧ c ≠ C.P ∧ C.h.CodeRec (.ref c) name ∧ (scope.names.lookup (Str.ofString "zip") = some .globalImplicit → c = C.cc)

theorem FunAt.callable {a : Addr} {name : Str} {params : Arguments} {body : List Stmt} {scope : Scope} (h : FunAt C a name params body scope) : Callable C (.ref a) := let ⟨_, _, _, _, ho, ha, hd, _⟩ := h; .fn ho ha hd

/-- the frame of a call, its parameters bound -/
theorem call_env (K : Cok C) (B : Base C G s) {fd : FuncData} {a : Addr} {s1 : Shared} {m cm : Str → Option Value} (hk : fd.scope.kind = .function) (hg : fd.globals = mainGlobals) (hb : fd.builtins = builtinsNs) (hnf : ∀ x, fd.scope.names.lookup x ≠ some .free) (hcode : fd.scope.names.lookup (Str.ofString "zip") = some .globalImplicit → fd.code = .ref C.cc)
    (x : InCallC s (callEnvC fd s.heap.objs.size a).locals m (callEnvC fd s.heap.objs.size a).cells cm s1) (ρ : Rho)
    (hρ : ∀ y b, ρ.lookup y = some b → ∃ v d, b = .v d ∧ Rep C G v d ∧ ((fd.scope.names.lookup y = some .local ∧ m y = some v) ∨ (fd.scope.names.lookup y = some .cell ∧ cm y = some v))) :
    ∃ mu, GrS C [] G s G s1 ∧ Base C G s1 ∧ EnvOk C fd.scope.names (callEnvC fd s.heap.objs.size a) mu ρ G s1.heap ∧ ∀ b ∈ mu, s.heap.get? b = none := by
  obtain ⟨h1, tk, rfl⟩ := x.toInCall.same
  obtain ⟨g, B'⟩ := grown_none K.tabLocal B (tk := tk) x.toInCall.keep
  have hLN : s.heap.get? (callEnvC fd s.heap.objs.size a).locals = none := get_size _
  have fresh : ∀ {b}, s.heap.get? b = none → (∃ o, h1.get? b = some o) → G b = none ∧ b ≠ C.P ∧ ∃ o, h1.get? b = some o := fun {b} e1 e2 => ⟨B.fresh e1, fun e => (by obtain ⟨o, ho⟩ := K.tabP _ B.tab; rw [e, ho] at e1; cases e1), e2⟩
  have hcN : ∀ y c, (y, c) ∈ (callEnvC fd s.heap.objs.size a).cells → s.heap.get? c = none := fun y c hm => get_above (Nat.le_of_lt (Nat.lt_of_le_of_lt (Nat.le_refl _) (x.above y c hm)))
  refine ⟨(callEnvC fd s.heap.objs.size a).locals :: ((callEnvC fd s.heap.objs.size a).cells.filter fun p => (callEnvC fd s.heap.objs.size a).cells.lookup p.1 == some p.2).map (·.2), g, B', ⟨hk, rfl, hg, hb, ⟨_, x.toInCall.ns⟩, List.mem_cons_self, fun y c hc => ⟨⟨_, x.cell y c hc⟩, List.mem_cons_of_mem _ (List.mem_map.mpr ⟨(y, c), List.mem_filter.mpr ⟨mem_of_lookup hc, by simp [hc]⟩, rfl⟩)⟩, fun y hy => ?_, fun y z c hy hz => name_of_addr x.apart (mem_of_lookup hy) (mem_of_lookup hz), fun b hb => ?_, fun y b hb => ?_, hcode⟩, fun b hb => ?_⟩
  · rcases hy with hy | hy
    · obtain ⟨c, hc⟩ := cells_has fd.scope.names (s.heap.objs.size + 1) (mem_of_lookup hy)
      exact lookup_of_mem hc
    · exact absurd hy (hnf y)
  · rcases List.mem_cons.mp hb with rfl | hb
    · obtain ⟨o, _, _, ho, _⟩ := x.toInCall.ns
      exact fresh hLN ⟨o, ho⟩
    · obtain ⟨⟨y, c⟩, hm, rfl⟩ := List.mem_map.mp hb
      obtain ⟨hm, hl⟩ := List.mem_filter.mp hm
      have hl' : (callEnvC fd s.heap.objs.size a).cells.lookup y = some c := by simpa using hl
      obtain ⟨o, ho, _⟩ := x.cell y c hl'
      exact fresh (hcN y c hm) ⟨o, ho⟩
  · obtain ⟨v, d, rfl, hr, h⟩ := hρ y b hb
    refine ⟨v, ?_, hr⟩
    have hkind : (callEnvC fd s.heap.objs.size a).kindOf y = fd.scope.names.lookup y := rfl
    unfold VarIs
    rcases h with ⟨h1, h2⟩ | ⟨h1, h2⟩
    · rw [hkind, h1]; exact ⟨m, x.toInCall.ns, h2⟩
    · rw [hkind, h1]
      obtain ⟨c, hc⟩ := cells_has fd.scope.names (s.heap.objs.size + 1) (mem_of_lookup h1)
      obtain ⟨c', hc'⟩ := lookup_of_mem hc
      exact ⟨c', hc', h2 ▸ x.cell y c' hc'⟩
  · rcases List.mem_cons.mp hb with rfl | hb
    · exact hLN
    · obtain ⟨⟨y, c⟩, hm, rfl⟩ := List.mem_map.mp hb
      exact hcN y c (List.mem_filter.mp hm).1

def parKind (names : Sig) (x : Str) : Prop := names.lookup x = some .local ∨ names.lookup x = some .cell

theorem Room.deep {env : Env} (h : Room A (n + 1)) : Room (A.deeper env) n := ⟨h.1, by have := h.2.1; show A.depth + 1 + n < _; omega, by have := h.2.2; show A.units + 3 + 8 * n + 100 < _; omega⟩

theorem call_body (K : Cok C) {fd : FuncData} {a : Addr} {body : List Stmt} {d : D} {s1 : Shared} {m cm : Str → Option Value} {ρ : Rho} (hA : Room A (n + 1)) (B : Base C G s) (hk : fd.scope.kind = .function) (hg : fd.globals = mainGlobals) (hb : fd.builtins = builtinsNs) (hnf : ∀ x, fd.scope.names.lookup x ≠ some .free) (hcode : fd.scope.names.lookup (Str.ofString "zip") = some .globalImplicit → fd.code = .ref C.cc)
    (x : InCallC s (callEnvC fd s.heap.objs.size a).locals m (callEnvC fd s.heap.objs.size a).cells cm s1)
    (hρ : ∀ y b, ρ.lookup y = some b → ∃ v d, b = .v d ∧ Rep C G v d ∧ ((fd.scope.names.lookup y = some .local ∧ m y = some v) ∨ (fd.scope.names.lookup y = some .cell ∧ cm y = some v)))
    (hbody : Exs C n fd.scope.names ρ body (.rt d)) :
    wpAny (model C.prog C.w) (A.deeper (callEnvC fd s.heap.objs.size a)) (execs body (callEnvC fd s.heap.objs.size a)) (fun f s' => ∃ v, f = .ret v ∧ Post C G s d v s') NoE s1 := by
  obtain ⟨mu, g, B1, X1, hmu⟩ := call_env K B hk hg hb hnf hcode x ρ hρ
  refine wpAny_mono (hbody _ _ mu G s1 hA.deep B1 X1) (fun f s2 ⟨v, G2, hf, g2, B2, r2⟩ => ⟨v, hf, G2, ?_, B2, r2⟩) fun _ _ e => e
  exact g.seq g2 (fun b hb => .inr (hmu b hb)) (fun _ h => nomatch h)

theorem fn_user2 (K : Cok C) {a : Addr} {name : Str} {params : Arguments} {body : List Stmt} {scope : Scope} {x1 x2 : Str} {d1 d2 d : D} (hf : FunAt C a name params body scope) (hne : x1 ≠ x2)
    (hbind : ∀ pm cd doc v1 v2, bindArgs (docDef name params body scope pm cd doc) ⟨[v1, v2], []⟩ = pure [(x1, v1), (x2, v2)]) (hnf : ∀ x, scope.names.lookup x ≠ some .free)
    (h1 : parKind scope.names x1) (h2 : parKind scope.names x2) (hco : scope.isCoroutine = false) (hgen : scope.isGenerator = false) (hk : scope.kind = .function)
    (hbody : Exs C n scope.names [(x1, .v d1), (x2, .v d2)] body (.rt d)) : FnOk C (n + 1) (.ref a) [d1, d2] d := by
  intro A G s vs hA B r
  obtain ⟨v1, vs', rfl, r1, r⟩ := r.inv
  obtain ⟨v2, vs', rfl, r2, r⟩ := r.inv
  obtain rfl := r.inv0
  obtain ⟨o, pm, c, doc, ho, ha, hd, hc, hcr, hz⟩ := hf
  have ho' := B.sat _ _ (B.top _ _ ha ho)
  have hcr' : s.heap.CodeRec (.ref c) name := hcr.at fun o e => B.sat _ _ (B.top _ _ hc e)
  have hkind : ∀ y ∈ [(x1, v1), (x2, v2)], (docDef name params body scope pm (.ref c) doc).scope.names.lookup y.1 = some .local ∨ ((docDef name params body scope pm (.ref c) doc).scope.names.lookup y.1 = some .cell ∧ ((cellsFrom (s.heap.objs.size + 1) (docDef name params body scope pm (.ref c) doc).scope.names []).lookup y.1).isSome = true) := by
    have one : ∀ x, parKind scope.names x → scope.names.lookup x = some .local ∨ (scope.names.lookup x = some .cell ∧ ((cellsFrom (s.heap.objs.size + 1) scope.names []).lookup x).isSome = true) := fun x h => h.imp id fun h => ⟨h, by
      obtain ⟨c, hc⟩ := cells_has scope.names (s.heap.objs.size + 1) (mem_of_lookup h)
      obtain ⟨c', hc'⟩ := lookup_of_mem hc
      rw [hc']; rfl⟩
    intro y hy
    rcases List.mem_cons.mp hy with rfl | hy
    · exact one x1 h1
    · rw [List.mem_singleton.mp hy]; exact one x2 h2
  refine wpAny_call (codeAny_call_cells (by have := hA.2.1; omega) ho' hd (B.nolimit K) hcr' rfl (hbind pm (.ref c) doc v1 v2) rfl hkind (fun s1 x => ?_) hco hgen hk)
  refine wpAny_mono (call_body (ρ := [(x1, .v d1), (x2, .v d2)]) (d := d) K hA B hk rfl rfl hnf (fun h => by rw [← hz h]; rfl) x (fun y b hb => ?_) hbody) (fun f s2 ⟨v, hfv, hp⟩ => by subst hfv; exact hp) fun _ _ e => e.elim
  have hkk : ∀ y, (callEnvC (docDef name params body scope pm (.ref c) doc) s.heap.objs.size a).kindOf y = scope.names.lookup y := fun _ => rfl
  rw [List.lookup_cons] at hb
  have hne' : ¬ x1 = x2 := hne
  by_cases q : y = x1
  · subst q
    rw [beq_self_eq_true] at hb
    cases hb
    refine ⟨v1, d1, rfl, r1, ?_⟩
    rcases h1 with h1 | h1
    · refine .inl ⟨h1, ?_⟩
      simp only [bindL, hkk, h1, if_true]
      rcases h2 with h2 | h2 <;> simp [h2, hne']
    · refine .inr ⟨h1, ?_⟩
      simp only [bindC, hkk, h1]
      rcases h2 with h2 | h2 <;> simp [h2, hne']
  · have q' : (y == x1) = false := by simpa using q
    rw [q', List.lookup_cons] at hb
    by_cases q2 : y = x2
    · subst q2
      rw [beq_self_eq_true] at hb
      cases hb
      refine ⟨v2, d2, rfl, r2, ?_⟩
      rcases h2 with h2 | h2
      · refine .inl ⟨h2, ?_⟩
        simp [bindL, hkk, h2]
      · refine .inr ⟨h2, ?_⟩
        simp [bindC, hkk, h2]
    · have q2' : (y == x2) = false := by simpa using q2
      rw [q2'] at hb
      cases hb

theorem fn_user1 (K : Cok C) {a : Addr} {name : Str} {params : Arguments} {body : List Stmt} {scope : Scope} {x1 : Str} {d1 d : D} (hf : FunAt C a name params body scope)
    (hbind : ∀ pm cd doc v1, bindArgs (docDef name params body scope pm cd doc) ⟨[v1], []⟩ = pure [(x1, v1)]) (hnf : ∀ x, scope.names.lookup x ≠ some .free)
    (h1 : parKind scope.names x1) (hco : scope.isCoroutine = false) (hgen : scope.isGenerator = false) (hk : scope.kind = .function)
    (hbody : Exs C n scope.names [(x1, .v d1)] body (.rt d)) : FnOk C (n + 1) (.ref a) [d1] d := by
  intro A G s vs hA B r
  obtain ⟨v1, vs', rfl, r1, r⟩ := r.inv
  obtain rfl := r.inv0
  obtain ⟨o, pm, c, doc, ho, ha, hd, hc, hcr, hz⟩ := hf
  have ho' := B.sat _ _ (B.top _ _ ha ho)
  have hcr' : s.heap.CodeRec (.ref c) name := hcr.at fun o e => B.sat _ _ (B.top _ _ hc e)
  have hkind : ∀ y ∈ [(x1, v1)], (docDef name params body scope pm (.ref c) doc).scope.names.lookup y.1 = some .local ∨ ((docDef name params body scope pm (.ref c) doc).scope.names.lookup y.1 = some .cell ∧ ((cellsFrom (s.heap.objs.size + 1) (docDef name params body scope pm (.ref c) doc).scope.names []).lookup y.1).isSome = true) := by
    have one : ∀ x, parKind scope.names x → scope.names.lookup x = some .local ∨ (scope.names.lookup x = some .cell ∧ ((cellsFrom (s.heap.objs.size + 1) scope.names []).lookup x).isSome = true) := fun x h => h.imp id fun h => ⟨h, by
      obtain ⟨c, hc⟩ := cells_has scope.names (s.heap.objs.size + 1) (mem_of_lookup h)
      obtain ⟨c', hc'⟩ := lookup_of_mem hc
      rw [hc']; rfl⟩
    intro y hy
    rw [List.mem_singleton.mp hy]; exact one x1 h1
  refine wpAny_call (codeAny_call_cells (by have := hA.2.1; omega) ho' hd (B.nolimit K) hcr' rfl (hbind pm (.ref c) doc v1) rfl hkind (fun s1 x => ?_) hco hgen hk)
  refine wpAny_mono (call_body (ρ := [(x1, .v d1)]) (d := d) K hA B hk rfl rfl hnf (fun h => by rw [← hz h]; rfl) x (fun y b hb => ?_) hbody) (fun f s2 ⟨v, hfv, hp⟩ => by subst hfv; exact hp) fun _ _ e => e.elim
  have hkk : ∀ y, (callEnvC (docDef name params body scope pm (.ref c) doc) s.heap.objs.size a).kindOf y = scope.names.lookup y := fun _ => rfl
  rw [List.lookup_cons] at hb
  by_cases q : y = x1
  · subst q
    rw [beq_self_eq_true] at hb
    cases hb
    refine ⟨v1, d1, rfl, r1, ?_⟩
    rcases h1 with h1 | h1
    · refine .inl ⟨h1, ?_⟩
      simp [bindL, hkk, h1]
    · refine .inr ⟨h1, ?_⟩
      simp [bindC, hkk, h1]
  · have q' : (y == x1) = false := by simpa using q
    rw [q'] at hb
    cases hb
end
end Mine

/-! part 17 -/
namespace Mine
set_option maxRecDepth 100000
section
variable {C : Cx} {n : Nat} {S S' : Sig} {ρ ρc : Rho} {pos p : Pos} {env : Env} {mu F : List Addr} {A : Around} {own : List Str} {G : GMap} {s : Shared}

/-- sum of a list of ints -/
theorem fn_sum (K : Cok C) {xs : List Int} : FnOk C n (.builtin "sum") [.lst (xs.map .int)] (.int xs.sum) := by
  intro A G s vs hA B r
  obtain ⟨v, vs', rfl, r1, r⟩ := r.inv
  obtain rfl := r.inv0
  obtain ⟨a, rfl⟩ := r1.lst_ref
  have hG : ∃ o, G a = some o := by cases r1 with | lst h _ _ _ => exact ⟨_, h⟩
  obtain ⟨o, ho⟩ := hG
  obtain ⟨vs, hl, hr⟩ := r1.isList B
  refine call_sum_walkAnyB (wpAny_pyIter_list hl ?_)
  have hne := ne_new B ho
  refine ⟨_, _, _, _, vs.toArray.size, _, _, fun i => xs.getD i 0, rfl, (Walks.list (A := A.in1) hA.1 _ a hne vs.toArray).toS, ⟨⟨_, Heap.get?_push_size _ rfl, rfl, rfl⟩, hl.push _⟩, fun b hb => ?_, fun i v hv => ?_, fun s' t' hm => ?_⟩
  · rw [Heap.size_push]
    rcases List.mem_cons.mp hb with rfl | hb
    · exact Nat.lt_succ_self _
    · rw [List.mem_singleton.mp hb]; exact Nat.lt_succ_of_lt (Heap.lt_size (B.sat _ _ ho))
  · obtain ⟨d, hd, hrd⟩ := hr.get' (by simpa using hv)
    rw [List.getElem?_map] at hd
    obtain ⟨x, hx, rfl⟩ := Option.map_eq_some_iff.mp hd
    cases hrd
    exact .inl ⟨_, by show Value.int x _ = Value.int (xs.getD i 0) _; rw [List.getD_eq_getElem?_getD, hx]; rfl⟩
  · have e : preSum (fun i => xs.getD i 0) vs.toArray.size = xs.sum := by
      rw [preSum_getD, List.size_toArray, hr.length, List.length_map, List.take_length]
    rw [e]
    have hk : ∀ b p, s.heap.get? b = some p → s'.heap.get? b = some p := fun b p e => hm.heap b p (fun h => by rw [List.mem_singleton.mp h, get_size] at e; cases e) (Heap.get?_push_of_some _ e)
    have hs' : s' = { s with heap := s'.heap, toks := s'.toks } := by
      have h1 : s'.gens = s.gens := hm.gens
      have h2 := hm.drawn
      have h3 := hm.os
      cases s'; cases s; simp_all
    obtain ⟨g, B'⟩ := grown_none K.tabLocal B (tk := s'.toks) hk
    rw [hs']
    exact ⟨G, g, B', .int _ _⟩

/-- ''.join of a list of texts -/
theorem strsAre_of {vs : List Value} {xs : List Str} (h : RepL C G vs (xs.map .str)) : StrsAre vs xs := by
  induction xs generalizing vs with
  | nil => cases h; exact .nil
  | cons x xs ih =>
    obtain ⟨v, vs', rfl, r1, r⟩ := h.inv
    cases r1
    exact .cons _ _ (ih r)

theorem ev_join (K : Cok C) {x : Str} {k : Nat} {kp ap : Pos} {e : Expr} {xs : List Str} (he : Ev C n S ρ e (.lst (xs.map .str))) (hst : ∀ env, starEach [e] env = (false, eval e env) :: starEach [] env) (hline : (ap.endLine == pos.line) = true)
    (hsz : (xs.map (·.length)).sum + xs.length * x.length ≤ 1000000) : Ev C n S ρ (.Call (.Attribute (.Constant (.str x) k kp) "join" ap) [e] [] pos) (.str (Txt.join x xs)) := by
  intro env A mu G s hA B X
  refine wpAny_Call_method1_late rfl hline (by rw [hst env]; rfl) (wpAny_Constant_str ?_)
  refine ⟨"str", "str.join", F.plainAttrs_str, F.slot_str_join, F.type_str_join, typeIs_str _ _ _, (fun _ e => nomatch e), ?_⟩
  refine PySem.Calls.callWith_builtin rfl (evalArgs_plain (spliced_cons (wpAny_mono (he env A mu G _ hA (B.tok _) (X.grow (GrS.tok C [] G s _))) (fun v s1 ⟨G1, g1, B1, r1⟩ => spliced_nil ?_) fun _ _ e => e)))
  obtain ⟨a, rfl⟩ := r1.lst_ref
  obtain ⟨vs, hl, hr⟩ := r1.isList B1
  refine join_list hl (strsAre_of hr) (by omega) fun t' k => ?_
  exact ⟨G1, (GrS.tok C [] G s _).trans (g1.trans (.tok C [] G1 s1 _)), B1.tok _, .str _ _⟩
end

section
variable {prog : Program} {w : World} {A : Around} {E : Value → Shared → Prop} {s : Shared}
theorem hint_dict {d : Addr} {kvs : List (Str × Value)} {Q : Bool → Shared → Prop} (hm : s.heap.DictOf (strKind prog w) d kvs) (h : Q false s) : wpAny (model prog w) A (Builtin.List.listLengthHint (.ref d)) Q E s := by
  unfold Builtin.List.listLengthHint
  refine wpAny_bind (wpAny_specialOf hm.typeIs F.slot_dict_len.lookup ?_)
  generalize hid : ("dict.__len__" : String) = id0
  wp_delta
  rw [show splitId id0 = some ("dict", "__len__") from by subst hid; decide +kernel]
  subst hid
  refine wpAny_bind (wpAny_isInstance (T := "dict") (b := true) hm.typeIs (by rw [isSubtype_type]; kernel_rfl) ?_)
  refine wpAny_ite_split (fun hab => absurd hab (by decide)) (fun _ => ?_)
  refine wpAny_ite_split (fun _ => ?_) (fun hab => absurd (by decide +kernel) hab)
  refine wpAny_bind (wpAny_typeOf hm.typeIs ?_)
  exact wpAny_pure h

theorem extend_dict {R : Result → Shared → Prop} {d : Addr} {kvs : List (Str × Value)} (hh : A.handled = none) (hds : (d == sysModules) = false) (hm : s.heap.DictOf (strKind prog w) d kvs) (hlen : kvs.length ≤ 2 ^ 24) (S : Addr) (res : Value) (c₀ : Nat)
    (hS : s.heap.get? S = some { cls := .type "list", data := .seq #[] c₀ })
    (hR : ∀ h' tk acc' c', (∀ b o, b ≠ S → s.heap.get? b = some o → h'.get? b = some o) → h'.get? S = some { cls := .type "list", dict := none, data := .seq acc' c', slots := #[] } →
      ItemsOf (fun i v => ∃ k x, kvs[i]? = some (k, x) ∧ (strKind prog w).is k v = true) acc' kvs.length → R (.ok (.ret res)) { s with heap := h', toks := tk }) :
    wpAny (model prog w) A.in1 (Builtin.List.listExtendWith (.ref S) (.ref d) res)
      (fun fin s' => match fin with | .done f => R (.ok f) s' | .again c' => c'.quiet = true ∧ codeAny (model prog w) A c' R s') (fun e s' => R (.error e) s') s := by
  obtain ⟨ep, hat⟩ := hm.dictAt
  have hSd : S ≠ d := fun e => by obtain ⟨o, ho, hd⟩ := Heap.dictOf_iff.mp hm; rw [← e, hS] at ho; cases ho; obtain ⟨_, _, _, hd, _⟩ := hd; cases hd
  have hSlt : S < s.heap.objs.size := Heap.lt_size hS
  have hdlt : d < s.heap.objs.size := hat.lt_size
  have hSI : S ≠ s.heap.objs.size := Nat.ne_of_lt hSlt
  have hdI : d ≠ s.heap.objs.size := Nat.ne_of_lt hdlt
  have hSf : S ∉ [s.heap.objs.size, d] := fun hm => by
    rcases List.mem_cons.mp hm with e | e
    · exact hSI e
    · exact hSd (List.mem_singleton.mp e)
  have W := (Walks.dictKeys (prog := prog) (w := w) (knd := strKind prog w) (A := A.in1) hh s.heap.objs.size d hdI kvs ep).toS
  unfold Builtin.List.listExtendWith
  refine wpAny_bind (wpAny_typeOf (T := "dict") hm.typeIs ?_)
  have h1 : Builtin.List.listSameRef (.ref S) (.ref d) = false := by simp [Builtin.List.listSameRef, hSd]
  have h2 : (Value.type "dict" == Value.type "list") = false := by decide
  have h3 : (Value.type "dict" == Value.type "tuple") = false := by decide
  simp only [h1, h2, h3, Bool.or_false, Bool.false_eq_true, if_false]
  refine wpAny_bind (wpAny_pyIter_dict hds hat ?_)
  refine wpAny_bind (wpAny_holding (hint_dict (hat.push _).dictOf ?_))
  have hS₁ := Heap.get?_push_of_some { cls := .type "dict_keyiterator", data := .fields #[.ref d, .int 0 0, .int kvs.length 0, .int ep 0] } hS
  refine wpAny_ite_split (fun _ => ?_) (fun hab => absurd (by decide +kernel) hab)
  refine wpAny_bind (wpAny_rule ?_)
  refine wpAny_bind ?_
  show wpAny _ _ (updateSeq S (·.push .none) >>= fun _ => updateSeq S (·.pop)) _ _ _
  refine wpAny_bind (wpAny_updateSeq hS₁ rfl ?_)
  have hS₂ := Heap.get?_update_self (Obj.mapSeq (·.push Value.none)) hS₁ rfl
  refine wpAny_updateSeq (hz := by seq_fits) hS₂ rfl ?_
  have hS₃ := Heap.get?_update_self (Obj.mapSeq (·.pop)) hS₂ rfl
  have up : ∀ b o, b ≠ S → (s.heap.push { cls := .type "dict_keyiterator", data := .fields #[.ref d, .int 0 0, .int kvs.length 0, .int ep 0] }).get? b = some o →
      (((s.heap.push { cls := .type "dict_keyiterator", data := .fields #[.ref d, .int 0 0, .int kvs.length 0, .int ep 0] }).update S (Obj.mapSeq (·.push Value.none))).update S (Obj.mapSeq (·.pop))).get? b = some o :=
    fun b o hb e => (Heap.get?_update_other _ _ (Ne.symm hb)).trans ((Heap.get?_update_other _ _ (Ne.symm hb)).trans e)
  refine wpAny_pure ⟨plainId_quiet F.plain_extend_loop _, codeAny_extend_loopS W (by rw [sizeLine_eq]; omega) S hSf res kvs.length 0 _ #[] _ rfl (Nat.zero_le _) ?_ hS₃ (ItemsOf.nil _) fun s' acc' c' hmv hS' hacc => ?_⟩
  · refine ⟨⟨_, up _ _ (Ne.symm hSI) (Heap.get?_push_size _ rfl), rfl, rfl⟩, ?_⟩
    obtain ⟨o, es, ho, r⟩ := hat.push { cls := .type "dict_keyiterator", data := .fields #[.ref d, .int 0 0, .int kvs.length 0, .int ep 0] }
    exact ⟨o, es, up _ _ (Ne.symm hSd) ho, r⟩
  · rw [Moved.eq_with hmv]
    refine hR s'.heap s'.toks acc' c' (fun b o hb e => hmv.heap b o (fun hmem => ?_) (up b o hb (Heap.get?_push_of_some _ e))) hS' hacc
    rcases List.mem_cons.mp hmem with e' | hmem
    · exact hb e'
    · exact absurd (Heap.lt_size e) (by rw [List.mem_singleton.mp hmem]; exact Nat.lt_irrefl _)

theorem call_list_dict {d : Addr} {kvs : List (Str × Value)} {Q : Value → Shared → Prop} (hh : A.handled = none) (hds : (d == sysModules) = false) (hm : s.heap.DictOf (strKind prog w) d kvs) (hlen : kvs.length ≤ 2 ^ 24)
    (hQ : ∀ h' tk acc' c', (∀ b o, s.heap.get? b = some o → h'.get? b = some o) → h'.get? s.heap.objs.size = some { cls := .type "list", dict := none, data := .seq acc' c', slots := #[] } →
      ItemsOf (fun i v => ∃ k x, kvs[i]? = some (k, x) ∧ (strKind prog w).is k v = true) acc' kvs.length → Q (.ref s.heap.objs.size) { s with heap := h', toks := tk }) :
    wpAny (model prog w) A (call (.type "list") [.ref d]) Q E s := by
  refine callType_codes (Q₁ := fun obj s₁ => obj = .ref s.heap.objs.size ∧ s₁ = { s with heap := s.heap.push { cls := .type "list", data := .seq #[] } }) F.called_list (F.typeCall_list_1 _) F.entry_list_init
    (code_list_new _ ⟨rfl, rfl⟩) fun obj s₁ h₁ => ?_
  obtain ⟨rfl, rfl⟩ := h₁
  have hS : (s.heap.push { cls := .type "list", data := .seq #[] }).get? s.heap.objs.size = some { cls := .type "list", data := .seq #[] } := Heap.get?_push_size _ rfl
  refine ⟨⟨_, hS, rfl⟩, F.args_list_init_2 _ _, ?_⟩
  have hSd : s.heap.objs.size ≠ d := fun e => by obtain ⟨o, ho, _⟩ := Heap.dictOf_iff.mp hm; rw [← e, get_size] at ho; cases ho
  show wpAny _ _ (do let old ← Builtin.List.listItems (.ref s.heap.objs.size); Builtin.List.listUpdate (.ref s.heap.objs.size) (fun _ => #[]); letGo old.toList.reverse; Builtin.List.listExtendWith (.ref s.heap.objs.size) (.ref d) .none) _ _ _
  refine wpAny_bind ?_
  unfold Builtin.List.listItems
  refine wpAny_bind (wpAny_seqItems hS rfl (wpAny_pure ?_))
  show wpAny _ _ (updateSeq s.heap.objs.size (fun _ => #[]) >>= fun _ => letGo (#[] : Array Value).toList.reverse >>= fun _ => Builtin.List.listExtendWith (.ref s.heap.objs.size) (.ref d) .none) _ _ _
  refine wpAny_bind (wpAny_updateSeq hS rfl ?_)
  have hS₂ := Heap.get?_update_self (Obj.mapSeq (fun _ => (#[] : Array Value))) hS rfl
  have oth : ∀ b o, b ≠ s.heap.objs.size → (s.heap.push { cls := .type "list", data := .seq #[] }).get? b = some o → ((s.heap.push { cls := .type "list", data := .seq #[] }).update s.heap.objs.size (Obj.mapSeq (fun _ => (#[] : Array Value)))).get? b = some o :=
    fun b o hb e => (Heap.get?_update_other _ _ (Ne.symm hb)).trans e
  refine wpAny_bind (wpAny_letGo ?_)
  have hm2 : ((s.heap.push { cls := .type "list", data := .seq #[] }).update s.heap.objs.size (Obj.mapSeq (fun _ => (#[] : Array Value)))).DictOf (strKind prog w) d kvs := by
    obtain ⟨o, ho, hd⟩ := Heap.dictOf_iff.mp hm
    exact Heap.dictOf_iff.mpr ⟨o, oth d o (Ne.symm hSd) (Heap.get?_push_of_some _ ho), hd⟩
  refine extend_dict (A := A.in1) (kvs := kvs) hh hds hm2 hlen s.heap.objs.size .none _ hS₂ fun h' tk acc' c' hk hS' hacc => ?_
  exact ⟨rfl, hQ h' tk acc' c' (fun b o e => hk b o (Nat.ne_of_lt (Heap.lt_size e)) (oth b o (Nat.ne_of_lt (Heap.lt_size e)) (Heap.get?_push_of_some _ e))) hS' hacc⟩
end

section
variable {C : Cx} {n : Nat} {A : Around} {G : GMap} {s : Shared}
theorem fn_list_dct (K : Cok C) {l : List (Str × D)} (hlen : l.length ≤ 1000) : FnOk C n (.type "list") [.dct l] (.lst (keysD l)) := by
  intro A G s vs hA B r
  obtain ⟨v, vs', rfl, r1, r⟩ := r.inv
  obtain rfl := r.inv0
  obtain ⟨a, rfl⟩ := r1.dct_ref
  obtain ⟨kvs, hd, hsm, hr⟩ := r1.isDict B
  refine call_list_dict hA.1 hsm hd (by rw [hr.length]; omega) fun h' tk acc' c' hk ho hacc => ?_
  refine post_alloc (tk := tk) K B (get_size _) hk ho fun G' hs hg => ?_
  have hrep : RepL C G' acc'.toList (keysD l) := by
    obtain ⟨hsz, hit⟩ := hacc
    have key : ∀ (vs : List Value) (ds : List D), vs.length = ds.length → (∀ (j : Nat) (v : Value), vs[j]? = some v → ∃ d, ds[j]? = some d ∧ Rep C G' v d) → RepL C G' vs ds := by
      intro vs
      induction vs with
      | nil => intro ds hl _; cases ds with | nil => exact .nil | cons => cases hl
      | cons v vs ih =>
        intro ds hl hj
        cases ds with
        | nil => cases hl
        | cons d ds =>
          obtain ⟨d', h1, h2⟩ := hj 0 v rfl
          have : d' = d := by simpa using h1.symm
          subst this
          exact .cons h2 (ih ds (by simpa using hl) fun j v e => by
            obtain ⟨d2, h3, h4⟩ := hj (j + 1) v (by simpa using e)
            exact ⟨d2, by simpa using h3, h4⟩)
    refine key _ _ (by unfold keysD; rw [List.length_map, Array.length_toList, hsz, hr.length]) fun j v e => ?_
    obtain ⟨k, x, hx, hkv⟩ := hit j v (by simpa using e)
    obtain ⟨d, hd, hrd⟩ := hr.getE hx
    obtain ⟨t, rfl⟩ : ∃ t, v = .str k t := Value.isStrOf_shape hkv
    exact ⟨.str k, by unfold keysD; rw [List.getElem?_map, hd]; rfl, .str _ _⟩
  exact .lst (vs := acc'.toList) (n := c') hg rfl (by simp) hrep
end
end Mine

/-! part 18 -/
namespace Mine
set_option maxRecDepth 100000
section
variable {C : Cx} {n : Nat} {S S' : Sig} {ρ ρc : Rho} {pos p : Pos} {env : Env} {mu F : List Addr} {A : Around} {own : List Str} {G : GMap} {s : Shared}

theorem argBest_ok (xs : List Int) (k : Nat) (hk : k < xs.length) : argBest (fun i j => decide (xs.getD i 0 < xs.getD j 0)) k ≤ k ∧ ∀ j ≤ k, xs.getD (argBest (fun i j => decide (xs.getD i 0 < xs.getD j 0)) k) 0 ≤ xs.getD j 0 := by
  induction k with
  | zero => exact ⟨Nat.le_refl _, fun j hj => by rw [Nat.le_zero.mp hj]; exact Int.le_refl _⟩
  | succ k ih =>
    obtain ⟨h1, h2⟩ := ih (by omega)
    rw [argBest]
    by_cases h : xs.getD (k + 1) 0 < xs.getD (argBest (fun i j => decide (xs.getD i 0 < xs.getD j 0)) k) 0
    · rw [if_pos (by simpa using h)]
      refine ⟨Nat.le_refl _, fun j hj => ?_⟩
      rcases Nat.lt_or_ge j (k + 1) with q | q
      · have := h2 j (by omega); omega
      · rw [show j = k + 1 by omega]; exact Int.le_refl _
    · rw [if_neg (by simpa using h)]
      refine ⟨by omega, fun j hj => ?_⟩
      rcases Nat.lt_or_ge j (k + 1) with q | q
      · exact h2 j (by omega)
      · rw [show j = k + 1 by omega]; omega

theorem fn_min (K : Cok C) {xs : List Int} {m : Int} (hm : m ∈ xs) (hle : ∀ x ∈ xs, m ≤ x) : FnOk C n (.builtin "min") [.lst (xs.map .int)] (.int m) := by
  intro A G s vs hA B r
  obtain ⟨v, vs', rfl, r1, r⟩ := r.inv
  obtain rfl := r.inv0
  obtain ⟨a, rfl⟩ := r1.lst_ref
  have hG : ∃ o, G a = some o := by cases r1 with | lst h _ _ _ => exact ⟨_, h⟩
  obtain ⟨o, ho⟩ := hG
  obtain ⟨vs, hl, hr⟩ := r1.isList B
  have hne := ne_new B ho
  have hlen : vs.toArray.size = xs.length := by rw [List.size_toArray, hr.length, List.length_map]
  have hpos : 0 < xs.length := List.length_pos_of_mem hm
  have hval : ∀ i v, vs.toArray[i]? = some v → i < xs.length ∧ ∃ t, v = .int (xs.getD i 0) t := fun i v hv => by
    obtain ⟨d, hd, hrd⟩ := hr.get' (by simpa using hv)
    rw [List.getElem?_map] at hd
    obtain ⟨x, hx, rfl⟩ := Option.map_eq_some_iff.mp hd
    cases hrd
    refine ⟨(List.getElem?_eq_some_iff.mp hx).1, _, by rw [List.getD_eq_getElem?_getD, hx]; rfl⟩
  refine call_min_walk (wpAny_pyIter_list hl ?_)
  refine ⟨_, _, _, vs.toArray.size, _, _, fun i j => decide (xs.getD i 0 < xs.getD j 0), rfl, Walks.list (A := A.in1) hA.1 _ a hne vs.toArray, ⟨⟨_, Heap.get?_push_size _ rfl, rfl, rfl⟩, hl.push _⟩, fun b hb => ?_, by rw [hlen]; exact hpos, fun i j vi vj s Q E hi hj hQ => ?_, fun v h' tk hv hk => ?_⟩
  · rw [Heap.size_push]
    rcases List.mem_cons.mp hb with rfl | hb
    · exact Nat.lt_succ_self _
    · rw [List.mem_singleton.mp hb]; exact Nat.lt_succ_of_lt (Heap.lt_size (B.sat _ _ ho))
  · obtain ⟨_, t1, rfl⟩ := hval i vi hi
    obtain ⟨_, t2, rfl⟩ := hval j vj hj
    exact PyProof.Rows.lt_int hQ
  · rw [hlen] at hv
    obtain ⟨hlt, t, rfl⟩ := hval _ v hv
    have hb := argBest_ok xs (xs.length - 1) (by omega)
    have e : xs.getD (argBest (fun i j => decide (xs.getD i 0 < xs.getD j 0)) (xs.length - 1)) 0 = m := by
      apply Int.le_antisymm
      · obtain ⟨j, hj, hjm⟩ := List.mem_iff_getElem.mp hm
        have := hb.2 j (by omega)
        rw [List.getD_eq_getElem?_getD (i := j), List.getElem?_eq_getElem hj, hjm] at this
        exact this
      · refine hle _ ?_
        rw [List.getD_eq_getElem?_getD, List.getElem?_eq_getElem hlt]
        exact List.getElem_mem _
    rw [e]
    obtain ⟨g, B'⟩ := grown_none K.tabLocal B (tk := tk) (h' := h') fun b o e => hk b o (fun h => by rw [List.mem_singleton.mp h, get_size] at e; cases e) (Heap.get?_push_of_some _ e)
    exact ⟨G, g, B', .int _ _⟩

/-- names bound one after another -/
def bindAll (xs : List Str) (ds : List D) (ρ : Rho) : Rho := match xs, ds with
  | x :: xs, d :: ds => bindAll xs ds ((x, .v d) :: ρ)
  | _, _ => ρ

theorem assign_all (K : Cok C) : ∀ (xs : List Str) (ps : List Pos) (ds : List D) (vs : List Value) (ρ : Rho) (G : GMap) (s : Shared) (Q : Unit → Shared → Prop), xs.length = ds.length → ps.length = xs.length → (∀ x ∈ xs, S.lookup x = some .local ∨ S.lookup x = some .cell) →
    Base C G s → EnvOk C S env mu ρ G s.heap → RepL C G vs ds → (∀ s', GrS C mu G s G s' → Base C G s' → EnvOk C S env mu (bindAll xs ds ρ) G s'.heap → Q () s') →
    wpAny (model C.prog C.w) A (assignInOrder ((xs.zip ps).map fun p => assign (.Name p.1 p.2) env) vs) Q NoE s
  | [], ps, ds, vs, ρ, G, s, Q, hl, hp, hS, B, X, r, hQ => assignInOrder_nil (hQ s (.refl C mu G s) B (by simpa [bindAll] using X))
  | x :: xs, [], ds, vs, ρ, G, s, Q, hl, hp, hS, B, X, r, hQ => by cases hp
  | x :: xs, p :: ps, [], vs, ρ, G, s, Q, hl, hp, hS, B, X, r, hQ => by cases hl
  | x :: xs, p :: ps, d :: ds, vs, ρ, G, s, Q, hl, hp, hS, B, X, r, hQ => by
    obtain ⟨v, vs', rfl, r1, r2⟩ := r.inv
    refine assignInOrder_cons (t := assign (.Name x p) env) (wpAny_assign_Name (store_var K B X (hS x List.mem_cons_self) fun a s1 ha _ _ g1 B1 hX1 _ _ _ => ?_))
    have ham : a ∈ mu := by
      rcases ha with rfl | ha
      · exact X.locMu
      · exact (X.cells x a ha).2
    refine assign_all K xs ps ds vs' ((x, .v d) :: ρ) G s1 Q (by simpa using hl) (by simpa using hp) (fun y hy => hS y (List.mem_cons_of_mem _ hy)) B1 (hX1 d r1) r2 fun s2 g2 B2 X2 => ?_
    exact hQ s2 (g1.seq g2 (fun b hb => .inl hb) fun b hb => .inl (by rw [List.mem_singleton.mp hb]; exact ham)) B2 X2

/-- a, b, c = e -/
theorem ex_unpack (K : Cok C) {xs : List Str} {ps : List Pos} {k : Nat} {tp : Pos} {e : Expr} {ds : List D} (he : Ev C n S ρ e (.tup ds)) (hl : xs.length = ds.length) (hp : ps.length = xs.length) (hS : ∀ x ∈ xs, S.lookup x = some .local ∨ S.lookup x = some .cell)
    (hs : ∀ env, swapsWithSole [.Tuple ((xs.zip ps).map fun p => .Name p.1 p.2) k tp] e pos.line env = pure false) (hw : ∀ env, swappedStores [.Tuple ((xs.zip ps).map fun p => .Name p.1 p.2) k tp] e env = pure none) :
    Ex C n S ρ (.Assign [.Tuple ((xs.zip ps).map fun p => .Name p.1 p.2) k tp] e pos) (.nx (bindAll xs ds ρ)) := by
  intro env A mu G s hA B X
  refine Assign_Tuple (wpAny_mono (he env A mu G s hA B X) (fun v s1 ⟨G1, g1, B1, r1⟩ => ?_) fun _ _ e => e) (hs env) (hw env)
  obtain ⟨a, rfl⟩ := r1.tup_ref
  obtain ⟨vs, ht, hr⟩ := r1.isTup B1
  have X1 := X.grow g1
  have each : ∀ (ys : List (Str × Pos)), assignEach (ys.map fun p => Expr.Name p.1 p.2) env = ys.map fun p => (false, assign (.Name p.1 p.2) env) := by
    intro ys
    induction ys with
    | nil => rfl
    | cons y ys ih => rw [List.map_cons, List.map_cons, ← ih]; rfl
  have hlen : (xs.zip ps).length = xs.length := by rw [List.length_zip, hp, Nat.min_self]
  refine wpAny_assign_Tuple (items := vs.toArray) hA.1 ht ?_ ?_ fun h' he' => ?_
  · rw [each, List.length_map, hlen, List.size_toArray, hr.length, hl]
  · rw [each, List.findIdx?_eq_none_iff]
    intro x hx
    obtain ⟨y, _, rfl⟩ := List.mem_map.mp hx
    rfl
  · rw [each, List.map_map]
    obtain ⟨g2, B2⟩ := grown_none K.tabLocal B1 (tk := s1.toks) (h' := h') fun b o e => he' b o (fun h => by rw [h, get_size] at e; cases e) e
    exact assign_all K xs ps ds vs ρ G1 { s1 with heap := h' } _ hl hp hS B2 (X1.grow g2) hr fun s3 g3 B3 X3 => ⟨rfl, G1, mu, g1.seq (mu' := mu) (g2.seq (mu' := mu) g3 (fun b hb => .inl hb) (fun _ h => nomatch h)) (fun b hb => .inl hb) (fun _ h => nomatch h), B3, X3, fun _ h => .inl h⟩

/-- d.values() -/
def valsD (l : List (Str × D)) : List D := l.map (·.2)
theorem it_values (K : Cok C) {o : Expr} {ap : Pos} {l : List (Str × D)} (he : Ev C n S ρ o (.dct l)) (hbase : ∀ env, attributeBase o "values" env (eval o env) = eval o env) (hline : (ap.endLine == pos.line) = true) :
    It C n S ρ (.Call (.Attribute o "values" ap) [] [] pos) (valsD l) := by
  intro env A mu G s hA B X
  refine wpAny_Call_method0_late (hbase env) hline (wpAny_mono (he env A mu G s hA B X) (fun v s1 ⟨G1, g1, B1, r1⟩ => ?_) fun _ _ e => e)
  obtain ⟨a, rfl⟩ := r1.dct_ref
  have hG : ∃ o, G1 a = some o := by cases r1 with | dct h _ _ _ => exact ⟨_, h⟩
  obtain ⟨oo, ho⟩ := hG
  obtain ⟨kvs, hd, hsm, hr⟩ := r1.isDict B1
  obtain ⟨ep, hat⟩ := hd.dictAt
  refine ⟨"dict", "dict.values", F.plainAttrs_dict, F.slot_dict_values, F.type_dict_values, hd.typeIs, hd.mapOf.noDict, ?_⟩
  refine method_meetsIn F.slot_dict_values F.entry_dict_values rfl (PySem.evalArgs_none ⟨rfl, hd.typeIs, F.args_dict_values_1 _, _, meets_dict_values (strKind C.prog C.w) a hsm, ⟨kvs, hd⟩, ?_⟩)
  refine wpAny_pyIter_values (kvs := kvs) (ep := ep) (knd := strKind C.prog C.w) ⟨_, Heap.get?_push_size _ rfl, rfl, rfl⟩ (hat.push _) ?_
  obtain ⟨g2, B2⟩ := grown_none K.tabLocal B1 (tk := s1.toks) (h' := s1.heap.push { cls := .type "dict_values", data := .fields #[.ref a] }) fun _ _ e => Heap.get?_push_of_some _ e
  have ho2 : G1 a = some oo := ho
  obtain ⟨G3, wr, g3, B3, x, hf⟩ := iter_new (wrx := []) (more := [a]) (xs := valsD l) (k := kvs.length) (tk := s1.toks) K B2 (o := { cls := .type "dict_valueiterator", data := .fields #[.ref a, .int 0 0, .int kvs.length 0, .int ep 0] }) rfl
    (fun A hA => Walks.dictValues (knd := strKind C.prog C.w) hA _ a (ne_new B2 ho2) kvs ep) ⟨⟨_, Heap.get?_push_size _ rfl, rfl, rfl⟩, (hat.push _).push _⟩ (by unfold valsD; rw [List.length_map, hr.length])
    (fun b hb => by rw [List.mem_singleton.mp hb]; exact ⟨oo, ho2⟩)
    (fun i h hst b hb => by
      rcases List.mem_cons.mp hb with rfl | hb
      · obtain ⟨o, ho, _⟩ := hst.1; exact ⟨o, ho⟩
      · rw [List.mem_singleton.mp hb]; obtain ⟨o, es, ho, _⟩ := hst.2; exact ⟨o, ho⟩)
    (fun j v _ ⟨k, hx⟩ => by
      obtain ⟨d, hd, hrd⟩ := hr.getE hx
      exact ⟨d, by unfold valsD; rw [List.getElem?_map, hd]; rfl, hrd⟩)
  exact ⟨G3, wr, g1.trans (g2.trans g3), B3, x, fun b hb => none_back K B2 (g1.trans g2) (hf b hb)⟩
end
end Mine

/-! part 19 -/
namespace Mine
set_option maxRecDepth 100000
section
variable {prog : Program} {w : World} {A : Around} {E : Value → Shared → Prop} {s : Shared}

/-- a tuple's iterator is drawn from -/
theorem draws_tup (hh : A.handled = none) (it t : Addr) (hne : t ≠ it) (items : Array Value) :
    Draws prog w A it [it, t] items.size (fun i v => items[i]? = some v) (fun i h => h.IsTupleIter it t i ∧ h.IsTuple t items) where
  live := fun _ _ st => let ⟨o, ho, _⟩ := st.1; ⟨o, ho⟩
  frame := fun _ _ _ st hk => ⟨let ⟨o, ho, r⟩ := st.1; ⟨o, hk it (by simp) o ho, r⟩, let ⟨o, ho, r⟩ := st.2; ⟨o, hk t (by simp) o ho, r⟩⟩
  item := fun i s Q E hi st hQ => by
    obtain ⟨hit, ht⟩ := st
    have ht' := ht
    obtain ⟨oi, hoi, hci, hdi⟩ := id hit
    obtain ⟨ot, hot, _, nt, hdt⟩ := ht
    have hx : items[i]? = some items[i] := by simp [hi]
    unfold Builtin.SmallTypes.nextOf
    refine wpAny_bind (wpAny_callSpecial?_slot (name := Str.ofString "__next__") hit.typeIs F.slot_tuple_iterator_next (wpAny_call_entry F.slot_tuple_iterator_next hit.typeIs F.entry_tuple_iterator_next ?_ (F.args_tuple_iterator_next_1 _)))
    show wpAny _ _ (field (.ref it) 0 >>= _) _ _ s
    refine wpAny_bind (wpAny_field hoi hdi (x := .ref t) rfl ?_)
    show wpAny _ _ (if (Value.ref t == Value.none) = true then _ else _) _ _ s
    rw [if_neg (show ¬ ((Value.ref t == Value.none) = true) from Bool.false_ne_true)]
    show wpAny _ _ (field (.ref it) 1 >>= _) _ _ s
    refine wpAny_bind (wpAny_field hoi hdi (x := .int i 0) rfl ?_)
    show wpAny _ _ (seqItems? (.ref t) >>= _) _ _ s
    refine wpAny_bind (wpAny_seqItems hot hdt ?_)
    simp only [Int.toNat_natCast, hx]
    have hs := Heap.SameBut.update s.heap it (Obj.mapFields fun vs => vs.setIfInBounds 1 (rawInt (i + 1)))
    refine wpAny_bind (wpAny_setField hoi hdi (by simp) (wpAny_pure ⟨_, rfl, wpAny_pure (hQ _ _ s.toks hx ⟨?_, let ⟨o, ho, r⟩ := ht'; ⟨o, ?_, r⟩⟩ (Heap.SameBut.update ..))⟩))
    · exact ⟨_, Heap.get?_update_self _ hoi (Obj.isFreed_of_fields (Obj.data_mapFields hdi _)), (Obj.cls_mapFields ..).trans hci, by
        rw [Obj.data_mapFields hdi]; simp [rawInt]⟩
    · exact (Heap.get?_update_other _ _ (Ne.symm hne)).trans ho
  done := fun s Q E st hE => by
    obtain ⟨hit, ht⟩ := st
    obtain ⟨oi, hoi, hci, hdi⟩ := id hit
    obtain ⟨ot, hot, _, nt, hdt⟩ := ht
    have hx : items[items.size]? = none := by simp
    unfold Builtin.SmallTypes.nextOf
    refine wpAny_bind (wpAny_callSpecial?_slot (name := Str.ofString "__next__") hit.typeIs F.slot_tuple_iterator_next (wpAny_call_entry F.slot_tuple_iterator_next hit.typeIs F.entry_tuple_iterator_next ?_ (F.args_tuple_iterator_next_1 _)))
    show wpAny _ _ (field (.ref it) 0 >>= _) _ _ s
    refine wpAny_bind (wpAny_field hoi hdi (x := .ref t) rfl ?_)
    show wpAny _ _ (if (Value.ref t == Value.none) = true then _ else _) _ _ s
    rw [if_neg (show ¬ ((Value.ref t == Value.none) = true) from Bool.false_ne_true)]
    show wpAny _ _ (field (.ref it) 1 >>= _) _ _ s
    refine wpAny_bind (wpAny_field hoi hdi (x := .int items.size 0) rfl ?_)
    show wpAny _ _ (seqItems? (.ref t) >>= _) _ _ s
    refine wpAny_bind (wpAny_seqItems hot hdt ?_)
    simp only [Int.toNat_natCast, hx]
    refine wpAny_bind (wpAny_rule (wpAny_bind (wpAny_setField hoi hdi (by simp) ?_)))
    show wpAny _ _ (newExc (.type "StopIteration") [] >>= _) _ _ _
    refine wpAny_bind ?_
    simp only [newExc, newTuple]
    refine wpAny_bind (wpAny_newObj_type ?_ (by size_fits))
    refine wpAny_bind (m := firstArgMember _ _) (wpAny_of_eq (a := Value.none) (by first | rfl | (simp only [firstArgMember]; rfl)) ?_)
    refine wpAny_newObj_type ?_ (by size_fits)
    simp only [raiseNew]
    refine wpAny_bind (wpAny_handled ?_)
    first | rw [show A.in1.handled = none from hh] | rw [hh]
    refine wpAny_bind (wpAny_pure (wpAny_throw ?_))
    exact hE _ _ (((Heap.SameBut.update ..).extBut.push _).push _) ⟨_, Heap.get?_push_size _ rfl, rfl⟩

structure ZApart (z TI TO i1 i2 : Addr) (f1 f2 : List Addr) : Prop where
  TIz : TI ≠ z
  TOz : TO ≠ z
  i1z : i1 ≠ z
  i2z : i2 ≠ z
  TITO : TI ≠ TO
  TIi1 : TI ≠ i1
  TIi2 : TI ≠ i2
  TOi1 : TO ≠ i1
  TOi2 : TO ≠ i2
  i12 : i1 ≠ i2
  z1 : z ∉ f1
  TO1 : TO ∉ f1
  i21 : i2 ∉ f1
  z2 : z ∉ f2
  TO2 : TO ∉ f2
  i12' : i1 ∉ f2

section
variable {z TI TO i1 i2 : Addr} {f1 f2 : List Addr} {n1 n2 i : Nat} {P1 P2 : Nat → Value → Prop} {St1 St2 : Nat → Heap → Prop}

theorem zip_item (D : ZApart z TI TO i1 i2 f1 f2) (D1 : Draws prog w A i1 f1 n1 P1 St1) (D2 : Draws prog w A i2 f2 n2 P2 St2) {a b : Value} {Q : Value → Shared → Prop}
    (hz : IsZip s.heap z TI TO .none) (hTI : IsPair s.heap TI (.ref i1) (.ref i2)) (hTO : IsPair s.heap TO a b) (h1 : St1 i s.heap) (h2 : St2 i s.heap) (hi1 : i < n1) (hi2 : i < n2)
    (hQ : ∀ x y h' tk (T : Addr), P1 i x → P2 i y → IsZip h' z TI TO (rawInt T) → IsPair h' TO x y → St1 (i + 1) h' → St2 (i + 1) h' → IsPair h' T x y → s.heap.objs.size ≤ T → T ≠ z → T ≠ TO → T ≠ i1 → T ≠ i2 →
      (∀ c o, c ≠ z → c ≠ TO → c ≠ i1 → c ≠ i2 → s.heap.get? c = some o → h'.get? c = some o) → Q (.ref T) { s with heap := h', toks := tk }) :
    wpAny (model prog w) A (Builtin.«zip.__next__» ⟨[.ref z], []⟩) (fun fin s' => ∃ v, fin = .done (.ret v) ∧ Q v s') E s := by
  show wpAny _ _ (field (.ref z) 2 >>= _) _ _ _
  refine wpAny_bind (wpAny_field hz rfl (x := .bool false) rfl ?_)
  show wpAny _ _ (field (.ref z) 3 >>= _) _ _ _
  refine wpAny_bind (wpAny_field hz rfl (x := .ref TI) rfl ?_)
  refine wpAny_bind (wpAny_seqItems hTI rfl ?_)
  show wpAny _ _ (Builtin.SmallTypes.ownedTupleIsFree (.ref z) >>= _) _ _ _
  refine wpAny_bind ?_
  unfold Builtin.SmallTypes.ownedTupleIsFree
  refine wpAny_bind (wpAny_field hz rfl (x := .none) rfl (wpAny_pure ?_))
  simp only [if_true]
  refine wpAny_bind (wpAny_rule ?_)
  refine wpAny_bind (wpAny_field hz rfl (x := .ref TO) rfl ?_)
  refine wpAny_bind (wpAny_setField_rec hz (by simp) fun hA hzA hsA => ?_)
  replace hzA : IsZip hA z TI TO .ellipsis := hzA
  replace hsA : Heap.SameBut z s.heap hA := hsA
  refine wpAny_bind ?_
  simp only [List.zipIdx_cons, List.zipIdx_nil, List.forIn_cons, List.forIn_nil]
  have h1A : St1 i hA := D1.frame _ _ _ h1 fun b hb o e => hsA.extBut b o (fun q => D.z1 (q ▸ hb)) e
  have h2A : St2 i hA := D2.frame _ _ _ h2 fun b hb o e => hsA.extBut b o (fun q => D.z2 (q ▸ hb)) e
  refine wpAny_bind (wpAny_bind (wpAny_onRaise ?_))
  show wpAny _ _ (Builtin.SmallTypes.nextOf (.ref i1) >>= _) _ _ _
  refine wpAny_bind (D1.item i _ _ _ hi1 h1A fun x hB tkB hPx h1B hsB => wpAny_pure ?_)
  replace hsB : Heap.SameBut i1 hA hB := hsB
  have hTOB : IsPair hB TO a b := hsB.extBut _ _ D.TOi1 (hsA.extBut _ _ D.TOz hTO)
  refine wpAny_bind (wpAny_seqItems hTOB rfl ?_)
  refine wpAny_bind (wpAny_updateSeq_pair hTOB fun hC hTOC hsC => ?_)
  replace hTOC : IsPair hC TO x b := hTOC
  replace hsC : Heap.SameBut TO hB hC := hsC
  refine wpAny_bind (wpAny_letGo (wpAny_pure ?_))
  have h2C : St2 i hC := D2.frame _ _ _ h2A fun b hb o e => hsC.extBut b o (fun q => D.TO2 (q ▸ hb)) (hsB.extBut b o (fun q => D.i12' (q ▸ hb)) e)
  have h1C : St1 (i + 1) hC := D1.frame _ _ _ h1B fun b hb o e => hsC.extBut b o (fun q => D.TO1 (q ▸ hb)) e
  refine wpAny_bind (wpAny_bind (wpAny_onRaise ?_))
  show wpAny _ _ (Builtin.SmallTypes.nextOf (.ref i2) >>= _) _ _ _
  refine wpAny_bind (D2.item i _ _ _ hi2 h2C fun y hD tkD hPy h2D hsD => wpAny_pure ?_)
  replace hsD : Heap.SameBut i2 hC hD := hsD
  have hTOD : IsPair hD TO x b := hsD.extBut _ _ D.TOi2 hTOC
  refine wpAny_bind (wpAny_seqItems hTOD rfl ?_)
  refine wpAny_bind (wpAny_updateSeq_pair hTOD fun hF hTOF hsF => ?_)
  replace hTOF : IsPair hF TO x y := hTOF
  replace hsF : Heap.SameBut TO hD hF := hsF
  refine wpAny_bind (wpAny_letGo (wpAny_pure (wpAny_pure ?_)))
  have h2F : St2 (i + 1) hF := D2.frame _ _ _ h2D fun b hb o e => hsF.extBut b o (fun q => D.TO2 (q ▸ hb)) e
  have h1F : St1 (i + 1) hF := D1.frame _ _ _ h1C fun b hb o e => hsF.extBut b o (fun q => D.TO1 (q ▸ hb)) (hsD.extBut b o (fun q => D.i21 (q ▸ hb)) e)
  refine wpAny_bind (wpAny_seqItems hTOF rfl ?_)
  refine wpAny_bind (wpAny_newTuple ?_)
  have hsz : hF.objs.size = s.heap.objs.size := by rw [hsF.1, hsD.1, hsC.1, hsB.1, hsA.1]
  have hzF : IsZip hF z TI TO .ellipsis := hsF.extBut _ _ D.TOz.symm (hsD.extBut _ _ D.i2z.symm (hsC.extBut _ _ D.TOz.symm (hsB.extBut _ _ D.i1z.symm hzA)))
  have hkF : ∀ c o, c ≠ z → c ≠ TO → c ≠ i1 → c ≠ i2 → s.heap.get? c = some o → hF.get? c = some o := fun c o c1 c2 c3 c4 e =>
    hsF.extBut _ _ c2 (hsD.extBut _ _ c4 (hsC.extBut _ _ c2 (hsB.extBut _ _ c3 (hsA.extBut _ _ c1 e))))
  have hzlt : z < hF.objs.size := Heap.lt_size hzF
  have hTOlt : TO < hF.objs.size := Heap.lt_size hTOF
  have hi1lt : i1 < hF.objs.size := by obtain ⟨_, e⟩ := D1.live _ _ h1F; exact Heap.lt_size e
  have hi2lt : i2 < hF.objs.size := by obtain ⟨_, e⟩ := D2.live _ _ h2F; exact Heap.lt_size e
  show wpAny _ _ (Builtin.SmallTypes.ownedTupleHandOut (.ref z) (.ref hF.objs.size) >>= _) _ _ _
  refine wpAny_bind ?_
  unfold Builtin.SmallTypes.ownedTupleHandOut
  have hzG : IsZip (hF.push { cls := .type "tuple", data := .seq #[x, y] }) z TI TO .ellipsis := Heap.get?_push_of_some _ hzF
  refine wpAny_bind (wpAny_setField_rec hzG (by simp) fun hH hzH hsH => ?_)
  replace hzH : IsZip hH z TI TO (rawInt hF.objs.size) := hzH
  refine wpAny_setField_rec hzH (by simp) fun hI hzI hsI => ?_
  replace hzI : IsZip hI z TI TO (rawInt hF.objs.size) := hzI
  have up : ∀ c o, c ≠ z → hF.get? c = some o → hI.get? c = some o := fun c o c1 e => hsI.extBut _ _ c1 (hsH.extBut _ _ c1 (Heap.get?_push_of_some _ e))
  have hTI' : IsPair hI hF.objs.size x y := hsI.extBut _ _ (Nat.ne_of_gt hzlt) (hsH.extBut _ _ (Nat.ne_of_gt hzlt) (Heap.get?_push_size _ rfl))
  refine wpAny_pure ⟨_, rfl, ?_⟩
  exact hQ x y hI _ hF.objs.size hPx hPy hzI (up _ _ D.TOz hTOF) (D1.frame _ _ _ h1F fun b hb o e => up b o (fun q => D.z1 (q ▸ hb)) e) (D2.frame _ _ _ h2F fun b hb o e => up b o (fun q => D.z2 (q ▸ hb)) e) hTI' (by rw [hsz]; exact Nat.le_refl _)
    (Nat.ne_of_gt hzlt) (Nat.ne_of_gt hTOlt) (Nat.ne_of_gt hi1lt) (Nat.ne_of_gt hi2lt) fun c o c1 c2 c3 c4 e => up c o c1 (hkF c o c1 c2 c3 c4 e)

theorem zip_end (hh : A.handled = none) (D : ZApart z TI TO i1 i2 f1 f2) (D1 : Draws prog w A i1 f1 n1 P1 St1) (D2 : Draws prog w A i2 f2 n2 P2 St2) {a b : Value} {Q : Fin → Shared → Prop}
    (hz : IsZip s.heap z TI TO .none) (hTI : IsPair s.heap TI (.ref i1) (.ref i2)) (hTO : IsPair s.heap TO a b) (h1 : St1 i s.heap) (h2 : St2 i s.heap) (hi : i = min n1 n2)
    (hE : ∀ h' e tk, (∀ c o, c ≠ z → c ≠ TO → c ≠ i1 → c ≠ i2 → s.heap.get? c = some o → h'.get? c = some o) → (∃ o, h'.get? e = some o ∧ o.cls = .type "StopIteration") → E (.ref e) { s with heap := h', toks := tk }) :
    wpAny (model prog w) A (Builtin.«zip.__next__» ⟨[.ref z], []⟩) Q E s := by
  show wpAny _ _ (field (.ref z) 2 >>= _) _ _ _
  refine wpAny_bind (wpAny_field hz rfl (x := .bool false) rfl ?_)
  show wpAny _ _ (field (.ref z) 3 >>= _) _ _ _
  refine wpAny_bind (wpAny_field hz rfl (x := .ref TI) rfl ?_)
  refine wpAny_bind (wpAny_seqItems hTI rfl ?_)
  show wpAny _ _ (Builtin.SmallTypes.ownedTupleIsFree (.ref z) >>= _) _ _ _
  refine wpAny_bind ?_
  unfold Builtin.SmallTypes.ownedTupleIsFree
  refine wpAny_bind (wpAny_field hz rfl (x := .none) rfl (wpAny_pure ?_))
  simp only [if_true]
  refine wpAny_bind (wpAny_rule ?_)
  refine wpAny_bind (wpAny_field hz rfl (x := .ref TO) rfl ?_)
  refine wpAny_bind (wpAny_setField_rec hz (by simp) fun hA hzA hsA => ?_)
  replace hzA : IsZip hA z TI TO .ellipsis := hzA
  replace hsA : Heap.SameBut z s.heap hA := hsA
  refine wpAny_bind ?_
  simp only [List.zipIdx_cons, List.zipIdx_nil, List.forIn_cons, List.forIn_nil]
  have h1A : St1 i hA := D1.frame _ _ _ h1 fun b hb o e => hsA.extBut b o (fun q => D.z1 (q ▸ hb)) e
  have h2A : St2 i hA := D2.frame _ _ _ h2 fun b hb o e => hsA.extBut b o (fun q => D.z2 (q ▸ hb)) e
  refine wpAny_bind (wpAny_bind (wpAny_onRaise ?_))
  show wpAny _ _ (Builtin.SmallTypes.nextOf (.ref i1) >>= _) _ _ _
  rcases Nat.lt_or_ge i n1 with hlt | hge
  · have hi2 : i = n2 := by omega
    refine wpAny_bind (D1.item i _ _ _ hlt h1A fun x hB tkB hPx h1B hsB => wpAny_pure ?_)
    replace hsB : Heap.SameBut i1 hA hB := hsB
    have hTOB : IsPair hB TO a b := hsB.extBut _ _ D.TOi1 (hsA.extBut _ _ D.TOz hTO)
    refine wpAny_bind (wpAny_seqItems hTOB rfl ?_)
    refine wpAny_bind (wpAny_updateSeq_pair hTOB fun hC hTOC hsC => ?_)
    replace hsC : Heap.SameBut TO hB hC := hsC
    refine wpAny_bind (wpAny_letGo (wpAny_pure ?_))
    have h2C : St2 i hC := D2.frame _ _ _ h2A fun b hb o e => hsC.extBut b o (fun q => D.TO2 (q ▸ hb)) (hsB.extBut b o (fun q => D.i12' (q ▸ hb)) e)
    refine wpAny_bind (wpAny_bind (wpAny_onRaise ?_))
    show wpAny _ _ (Builtin.SmallTypes.nextOf (.ref i2) >>= _) _ _ _
    rw [hi2] at h2C
    refine wpAny_bind (D2.done _ _ _ h2C fun hD e hsD he => ?_)
    replace hsD : Heap.ExtBut i2 hC hD := hsD
    obtain ⟨oe, hoe, hce⟩ := he
    have hzD : IsZip hD z TI TO .ellipsis := hsD _ _ D.i2z.symm (hsC.extBut _ _ D.TOz.symm (hsB.extBut _ _ D.i1z.symm hzA))
    have hez : e ≠ z := fun x => by subst x; rw [hzD] at hoe; cases hoe; simp at hce
    exact wpAny_setField_rec hzD (by simp) fun hF _ hsF => hE hF e _ (fun c o c1 c2 c3 c4 x => hsF.extBut _ _ c1 (hsD _ _ c4 (hsC.extBut _ _ c2 (hsB.extBut _ _ c3 (hsA.extBut _ _ c1 x))))) ⟨oe, hsF.extBut _ _ hez hoe, hce⟩
  · have hi1 : i = n1 := by omega
    rw [hi1] at h1A
    refine wpAny_bind (D1.done _ _ _ h1A fun hB e hsB he => ?_)
    replace hsB : Heap.ExtBut i1 hA hB := hsB
    obtain ⟨oe, hoe, hce⟩ := he
    have hzB : IsZip hB z TI TO .ellipsis := hsB _ _ D.i1z.symm hzA
    have hez : e ≠ z := fun x => by subst x; rw [hzB] at hoe; cases hoe; simp at hce
    exact wpAny_setField_rec hzB (by simp) fun hC _ hsC => hE hC e _ (fun c o c1 _ c3 _ x => hsC.extBut _ _ c1 (hsB _ _ c3 (hsA.extBut _ _ c1 x))) ⟨oe, hsC.extBut _ _ hez hoe, hce⟩
end

/-- zip of two drawn iterators -/
theorem zip_walks {z TI TO i1 i2 : Addr} {f1 f2 : List Addr} {n1 n2 : Nat} {P1 P2 : Nat → Value → Prop} {St1 St2 : Nat → Heap → Prop} (hh : A.handled = none) (D : ZApart z TI TO i1 i2 f1 f2) (m1 : i1 ∈ f1) (m2 : i2 ∈ f2)
    (D1 : Draws prog w A.in1 i1 f1 n1 P1 St1) (D2 : Draws prog w A.in1 i2 f2 n2 P2 St2) :
    WalksU prog w A z (z :: TI :: TO :: (f1 ++ f2)) [z, TO, i1, i2] (min n1 n2) (fun i vals => i < min n1 n2 ∧ ∃ x y, P1 i x ∧ P2 i y ∧ vals = #[x, y])
      (fun i h => IsZip h z TI TO .none ∧ IsPair h TI (.ref i1) (.ref i2) ∧ (∃ a b, IsPair h TO a b) ∧ St1 i h ∧ St2 i h)
      (fun i T h => IsZip h z TI TO (rawInt T) ∧ IsPair h TI (.ref i1) (.ref i2) ∧ (∃ a b, IsPair h TO a b) ∧ St1 (i + 1) h ∧ St2 (i + 1) h ∧ T ≠ z ∧ T ≠ TO ∧ T ≠ i1 ∧ T ≠ i2) where
  sub := fun c hc => by simp at hc ⊢; rcases hc with rfl | rfl | rfl | rfl <;> simp [m1, m2]
  frame := fun i h h' hst hk => by
    obtain ⟨hz, hTI, ⟨a, b, hTO⟩, h1, h2⟩ := hst
    exact ⟨hk z (by simp) _ hz, hk TI (by simp) _ hTI, ⟨a, b, hk TO (by simp) _ hTO⟩, D1.frame _ _ _ h1 fun b hb o e => hk b (by simp [hb]) o e, D2.frame _ _ _ h2 fun b hb o e => hk b (by simp [hb]) o e⟩
  item := fun i s Q E hi hst hQ => by
    obtain ⟨hz, hTI, ⟨a, b, hTO⟩, h1, h2⟩ := hst
    have hT : s.TypeIs (.ref z) "zip" := ⟨_, hz, rfl⟩
    unfold pyNext
    refine wpAny_bind (wpAny_attempt (wpAny_callSpecial?_slot (name := Str.ofString "__next__") hT F.slot_zip_next (wpAny_call_entry F.slot_zip_next hT F.entry_zip_next
      (zip_item D D1 D2 hz hTI hTO h1 h2 (by omega) (by omega) fun x y h' tk T hx hy a1 a2 a3 a4 a5 a6 t1 t2 t3 t4 hk => wpAny_pure ?_) (F.args_zip_next_1 _))))
    exact hQ T #[x, y] h' tk ⟨hi, x, y, hx, hy, rfl⟩ ⟨_, a5, rfl, _, rfl⟩ ⟨a1, hk _ _ D.TIz D.TITO D.TIi1 D.TIi2 hTI, ⟨_, _, a2⟩, a3, a4, t1, t2, t3, t4⟩
      fun c o hc e => hk c o (fun x => hc (by simp [x])) (fun x => hc (by simp [x])) (fun x => hc (by simp [x])) (fun x => hc (by simp [x])) e
  go := fun elts k pos i T s Q E hm hQ => by
    obtain ⟨hz, hTI, ⟨a, b, hTO⟩, h1, h2, _⟩ := hm
    refine wpAny_letOwnedTupleGo_zip hz fun h' hz' hs' => hQ h' ⟨hz', hs'.extBut _ _ D.TIz hTI, ⟨a, b, hs'.extBut _ _ D.TOz hTO⟩, D1.frame _ _ _ h1 fun b hb o e => hs'.extBut b o (fun q => D.z1 (q ▸ hb)) e, D2.frame _ _ _ h2 fun b hb o e => hs'.extBut b o (fun q => D.z2 (q ▸ hb)) e⟩
      fun c o hc e => hs'.extBut _ _ (fun x => hc (by simp [x])) e
  apart := fun i T h hm hT => by
    obtain ⟨_, _, _, _, _, t1, t2, t3, t4⟩ := hm
    simp at hT
    rcases hT with rfl | rfl | rfl | rfl
    · exact t1 rfl
    · exact t2 rfl
    · exact t3 rfl
    · exact t4 rfl
  done := fun s Q E hst hQ => by
    obtain ⟨hz, hTI, ⟨a, b, hTO⟩, h1, h2⟩ := hst
    have hT : s.TypeIs (.ref z) "zip" := ⟨_, hz, rfl⟩
    unfold pyNext
    refine wpAny_bind (wpAny_attempt (wpAny_callSpecial?_slot (name := Str.ofString "__next__") hT F.slot_zip_next (wpAny_call_entry F.slot_zip_next hT F.entry_zip_next
      (zip_end (A := A.in1) hh D D1 D2 hz hTI hTO h1 h2 rfl fun h' e tk hk he => ?_) (F.args_zip_next_1 _))))
    obtain ⟨o, ho, hc⟩ := he
    refine wpAny_bind (wpAny_isInstance (T := "StopIteration") (b := true) ⟨o, ho, hc⟩ isSubtype_stop ?_)
    exact wpAny_pure (hQ _ _ fun c o hc e => hk c o (fun x => hc (by simp [x])) (fun x => hc (by simp [x])) (fun x => hc (by simp [x])) (fun x => hc (by simp [x])) e)
  self := fun i s Q E hst hQ => wpAny_pyIter_zip hst.1 hQ

/-- zip(a, b) of two tuples -/
theorem zip_new (a b : Addr) (xs ys : Array Value) :
    Meets (Builtin.«zip.__new__» ⟨[.type "zip", .ref a, .ref b], []⟩) (fun _ R s => s.heap.IsTuple a xs ∧ s.heap.IsTuple b ys ∧
      R (.ok (.ret (.ref (s.heap.objs.size + 4)))) { s with heap := ((((s.heap.push { cls := .type "tuple_iterator", data := .fields #[.ref a, .int 0 0] }).push { cls := .type "tuple_iterator", data := .fields #[.ref b, .int 0 0] }).push { cls := .type "tuple", data := .seq #[.ref s.heap.objs.size, .ref (s.heap.objs.size + 1)] }).push { cls := .type "tuple", data := .seq #[.none, .none] }).push { cls := .type "zip", data := .fields #[.none, .bool false, .bool false, .ref (s.heap.objs.size + 2), .ref (s.heap.objs.size + 3)] } }) :=
  .of_wp fun prog w A R s h => by
    obtain ⟨hp, g, d, tk, os⟩ := s; obtain ⟨ha, hb, h⟩ := h
    have hsub := sub_zip
    have hA : Heap.IsTuple (Shared.heap ⟨hp, g, d, tk, os⟩) a xs := ha
    have hB : Heap.IsTuple (Shared.heap ⟨hp.push { cls := .type "tuple_iterator", data := .fields #[.ref a, .int 0 0] }, g, d, tk, os⟩) b ys := let ⟨o, ho, r⟩ := hb; ⟨o, Heap.get?_push_of_some _ ho, r⟩
    have e1 : (hp.push { cls := .type "tuple_iterator", data := .fields #[.ref a, .int 0 0] }).objs.size = hp.objs.size + 1 := Heap.size_push ..
    wp_walk using wpAny_pyIter_tuple hA, wpAny_pyIter_tuple hB
    simp only [Heap.size_push]
    exact ⟨_, rfl, h⟩

theorem call_zip_tups {a b : Addr} {xs ys : Array Value} {Q : Value → Shared → Prop} (ha : s.heap.IsTuple a xs) (hb : s.heap.IsTuple b ys)
    (h : ∀ h', IsZip h' (s.heap.objs.size + 4) (s.heap.objs.size + 2) (s.heap.objs.size + 3) .none → IsPair h' (s.heap.objs.size + 2) (.ref s.heap.objs.size) (.ref (s.heap.objs.size + 1)) →
      IsPair h' (s.heap.objs.size + 3) .none .none → h'.IsTupleIter s.heap.objs.size a 0 → h'.IsTupleIter (s.heap.objs.size + 1) b 0 →
      (∀ c o, s.heap.get? c = some o → h'.get? c = some o) → Q (.ref (s.heap.objs.size + 4)) { s with heap := h' }) :
    wpAny (model prog w) A (call (.type "zip") [.ref a, .ref b]) Q E s := by
  refine callType_new F.called_zip (by decide) (F.typeCall_zip_2 _ _) (F.newCall_zip_2 _ _) (fun obj => F.args_object_init_3 obj _ _) F.entry_zip_new (zip_new a b xs ys) ⟨ha, hb, ?_⟩
  generalize hH1 : s.heap.push { cls := .type "tuple_iterator", data := .fields #[.ref a, .int 0 0] } = H1
  have z1 : H1.objs.size = s.heap.objs.size + 1 := by rw [← hH1]; exact Heap.size_push ..
  have g1 : H1.get? s.heap.objs.size = some { cls := .type "tuple_iterator", data := .fields #[.ref a, .int 0 0] } := by rw [← hH1]; exact Heap.get?_push_size _ rfl
  have k1 : ∀ c o, s.heap.get? c = some o → H1.get? c = some o := fun c o e => by rw [← hH1]; exact Heap.get?_push_of_some _ e
  generalize hH2 : H1.push { cls := .type "tuple_iterator", data := .fields #[.ref b, .int 0 0] } = H2
  have z2 : H2.objs.size = s.heap.objs.size + 2 := by rw [← hH2, Heap.size_push, z1]
  have g2 : H2.get? (s.heap.objs.size + 1) = some { cls := .type "tuple_iterator", data := .fields #[.ref b, .int 0 0] } := by rw [← hH2, ← z1]; exact Heap.get?_push_size _ rfl
  have k2 : ∀ c o, H1.get? c = some o → H2.get? c = some o := fun c o e => by rw [← hH2]; exact Heap.get?_push_of_some _ e
  generalize hH3 : H2.push { cls := .type "tuple", data := .seq #[.ref s.heap.objs.size, .ref (s.heap.objs.size + 1)] } = H3
  have z3 : H3.objs.size = s.heap.objs.size + 3 := by rw [← hH3, Heap.size_push, z2]
  have g3 : H3.get? (s.heap.objs.size + 2) = some { cls := .type "tuple", data := .seq #[.ref s.heap.objs.size, .ref (s.heap.objs.size + 1)] } := by rw [← hH3, ← z2]; exact Heap.get?_push_size _ rfl
  have k3 : ∀ c o, H2.get? c = some o → H3.get? c = some o := fun c o e => by rw [← hH3]; exact Heap.get?_push_of_some _ e
  generalize hH4 : H3.push { cls := .type "tuple", data := .seq #[.none, .none] } = H4
  have z4 : H4.objs.size = s.heap.objs.size + 4 := by rw [← hH4, Heap.size_push, z3]
  have g4 : H4.get? (s.heap.objs.size + 3) = some { cls := .type "tuple", data := .seq #[.none, .none] } := by rw [← hH4, ← z3]; exact Heap.get?_push_size _ rfl
  have k4 : ∀ c o, H3.get? c = some o → H4.get? c = some o := fun c o e => by rw [← hH4]; exact Heap.get?_push_of_some _ e
  have g5 := Heap.get?_push_size H4 (o := { cls := .type "zip", data := .fields #[.none, .bool false, .bool false, .ref (s.heap.objs.size + 2), .ref (s.heap.objs.size + 3)] }) rfl
  rw [z4] at g5
  have k5 : ∀ c o, H4.get? c = some o → (H4.push { cls := .type "zip", data := .fields #[.none, .bool false, .bool false, .ref (s.heap.objs.size + 2), .ref (s.heap.objs.size + 3)] }).get? c = some o := fun c o e => Heap.get?_push_of_some _ e
  exact ⟨⟨_, g5, rfl⟩, h _ g5 (k5 _ _ (k4 _ _ g3)) (k5 _ _ g4) ⟨{ cls := .type "tuple_iterator", data := .fields #[.ref a, .int 0 0] }, k5 _ _ (k4 _ _ (k3 _ _ (k2 _ _ g1))), rfl, rfl⟩ ⟨{ cls := .type "tuple_iterator", data := .fields #[.ref b, .int 0 0] }, k5 _ _ (k4 _ _ (k3 _ _ g2)), rfl, rfl⟩ fun c o e => k5 _ _ (k4 _ _ (k3 _ _ (k2 _ _ (k1 _ _ e))))⟩
end
end Mine

/-! part 20 -/
namespace Mine
set_option maxRecDepth 100000

inductive AddD : D → D → D → Prop
  | int (a b : Int) : AddD (.int a) (.int b) (.int (a + b))
  | str (x y : Str) : x.length + y.length ≤ 1000000 → AddD (.str x) (.str y) (.str (x ++ y))

section
variable {C : Cx} {n : Nat} {S S' : Sig} {ρ ρc : Rho} {pos p : Pos} {env : Env} {mu F : List Addr} {A : Around} {own : List Str} {G : GMap} {s : Shared}

theorem add_val {d1 d2 d : D} {v1 v2 : Value} {E : Value → Shared → Prop} (h : AddD d1 d2 d) (r1 : Rep C G v1 d1) (r2 : Rep C G v2 d2) : wpAny (model C.prog C.w) A (binaryOp .Add v1 v2) (fun y s' => (∀ G', Rep C G' y d) ∧ Keeps s s') E s := by
  cases h with
  | int a b =>
    cases r1; cases r2
    exact P.add_int ⟨fun _ => .int _ _, s.heap, _, rfl, fun _ _ e => e⟩
  | str x y hsz =>
    cases r1; cases r2
    refine P.add_str ?_
    split
    · rename_i h
      rw [str_empty_of h]
      have e : (Str.empty ++ y : Str) = y := Str.empty_append y
      rw [e]
      exact ⟨fun _ => .str _ _, s.heap, s.toks, rfl, fun _ _ e => e⟩
    · split
      · rename_i h
        rw [str_empty_of h]
        have e : (x ++ Str.empty : Str) = x := Str.append_empty x
        rw [e]
        exact ⟨fun _ => .str _ _, s.heap, s.toks, rfl, fun _ _ e => e⟩
      · refine ⟨?_, fun _ => .str _ _, s.heap, _, rfl, fun _ _ e => e⟩
        rw [Str.length_append, sizeLine_eq]; omega

theorem ne_nat {a b : Nat} (h : a < b ∨ b < a) : @Ne Addr a b := h.elim (fun h => Nat.ne_of_lt h) fun h => Nat.ne_of_gt h
theorem nin_two {a b c : Addr} (h1 : a ≠ b) (h2 : a ≠ c) : a ∉ [b, c] := fun h => by
  rcases List.mem_cons.mp h with h | h
  · exact h1 h
  · exact h2 (List.mem_singleton.mp h)
theorem zapart_new {n a b : Nat} (h1 : a < n) (h2 : b < n) : ZApart (n + 4) (n + 2) (n + 3) n (n + 1) [n, a] [n + 1, b] :=
  ⟨ne_nat (by omega), ne_nat (by omega), ne_nat (by omega), ne_nat (by omega), ne_nat (by omega), ne_nat (by omega), ne_nat (by omega), ne_nat (by omega), ne_nat (by omega), ne_nat (by omega),
    nin_two (ne_nat (by omega)) (ne_nat (by omega)), nin_two (ne_nat (by omega)) (ne_nat (by omega)), nin_two (ne_nat (by omega)) (ne_nat (by omega)), nin_two (ne_nat (by omega)) (ne_nat (by omega)), nin_two (ne_nat (by omega)) (ne_nat (by omega)), nin_two (ne_nat (by omega)) (ne_nat (by omega))⟩
theorem nin_new {b n m : Nat} (h1 : b < n) (h2 : b < m) : (b : Addr) ∉ ((m : Addr) :: [(n + 4 : Addr), (n + 3 : Addr), (n : Addr), (n + 1 : Addr)]) := fun h => by
  rcases List.mem_cons.mp h with h | h
  · exact Nat.ne_of_lt h2 h
  · rcases List.mem_cons.mp h with h | h
    · exact Nat.ne_of_lt (show b < n + 4 by omega) h
    · rcases List.mem_cons.mp h with h | h
      · exact Nat.ne_of_lt (show b < n + 3 by omega) h
      · rcases List.mem_cons.mp h with h | h
        · exact Nat.ne_of_lt h1 h
        · exact Nat.ne_of_lt (show b < n + 1 by omega) (List.mem_singleton.mp h)

/-- the code's table as it stands now -/
theorem code_now (K : Cok C) (B : Base C G s) : ∃ ps, s.heap.IsCode C.cc C.P ps ∧ s.heap.TableAt C.cc C.P ps := by
  obtain ⟨ps, hP, htr⟩ := (K.tabIs _).mp B.tab
  obtain ⟨o, vs, file, tf, flags, tg, inF, text, tt, op, ho, hd, r1, r2, r3, r4, r5, _, _, _, hne⟩ := K.code0
  have ho' := B.sat _ _ (B.top _ _ hne ho)
  refine ⟨ps, ⟨o, vs, file, tf, flags, tg, inF, text, tt, _, ho', hd, r1, r2, r3, r4, r5, hP, rfl, htr, hne⟩, ?_, hP⟩
  obtain ⟨⟨o2, vs2, ho2, hc2, hd2, h11⟩, _⟩ := K.table0
  exact ⟨o2, vs2, B.sat _ _ (B.top _ _ hne ho2), hc2, hd2, h11⟩

/-- the table grown by one more code -/
theorem base_table (K : Cok C) (B : Base C G s) {h' : Heap} {tk : Nat} {ps : Array Value} (hx : Heap.ExtBut C.P s.heap h') (hc : h'.IsCode C.cc C.P ps) (ht : h'.TableAt C.cc C.P ps) :
    GrS C [] G s G { s with heap := h', toks := tk } ∧ Base C G { s with heap := h', toks := tk } := by
  refine ⟨⟨fun b o _ hb e => hx b o hb e, rfl, fun _ _ e => e, fun _ _ e => .inl e, id⟩, ⟨fun b o e => hx b o (ne_P B e) (B.sat b o e), B.top, B.noP, (K.tabIs _).mpr ⟨ps, ht.2, ?_⟩, B.gens⟩⟩
  obtain ⟨o, vs, file, tf, flags, tg, inF, text, tt, op, ho, hd, r1, r2, r3, r4, r5, hop, hpd, htr, hne⟩ := hc
  exact htr

/-- tuple(i + j for i, j in zip(a, b)) -/
theorem ev_tuple_zip (K : Cok C) {xa xb : Str} {np zp pa pb pt qa qb bp gp zpos : Pos} {kt : Nat} {e1 e2 : Expr} {scope : Scope} {xs ys ds : List D}
    (hn : NameV C S (.Name (Str.ofString "tuple") np) (.type "tuple")) (hz : NameV C S (.Name (Str.ofString "zip") zp) (.type "zip")) (hcode : S.lookup (Str.ofString "zip") = some .globalImplicit)
    (h1 : EvL C n S ρ [e1, e2] [.tup xs, .tup ys]) (hadd : ∀ (i : Nat) (x y : D), xs[i]? = some x → ys[i]? = some y → ∃ d, ds[i]? = some d ∧ AddD x y d) (hlen : ds.length = min xs.length ys.length) (hsz : ds.length ≤ 1000)
    (hco : scope.isCoroutine = false) (hfree : ∀ y ∈ scope.names, y.2 ≠ .free) (hcell : ∀ y ∈ scope.names, y.2 ≠ .cell) (h0 : scope.names.lookup (".0" : Str) = some NameKind.local) (hxa : scope.names.lookup xa = some .local) (hxb : scope.names.lookup xb = some .local)
    (hab : xa ≠ xb) (hkind : scope.kind = .function) (hda : (xa == ("__debug__" : Str)) = false) (hdb : (xb == ("__debug__" : Str)) = false)
    (hgf : ∀ env x, genFold (.Call (.Name (Str.ofString "zip") zp) [e1, e2] [] zpos) env x = pure x) :
    Ev C n S ρ (.Call (.Name (Str.ofString "tuple") np) [.GeneratorExp (.BinOp (.Name xa qa) .Add (.Name xb qb) bp) [⟨.Tuple [.Name xa pa, .Name xb pb] kt pt, .Call (.Name (Str.ofString "zip") zp) [e1, e2] [] zpos, [], 0⟩] scope gp] [] pos) (.tup ds) := by
  intro env A mu G s hA B X
  refine wpAny_Call_NameR (hn env A mu ρ G s _ _ B X ?_)
  refine callWith_any (C := C) (s := s) .typ rfl (spliced_cons ?_)
  refine wpAny_GeneratorExp_walksQT hA.1 hco (closureFor_none hfree) hcell h0 hxa hxb hab hkind (by have := hA.2.1; omega) ?_ (hgf env)
  refine wpAny_Call_NameR (hz env A mu ρ G s _ _ B X ?_)
  have hpl := h1.plain (pos := zpos) env
  have hsp := spliced_evl (pos := zpos) h1 env A mu G s hA B X
  cases h1 with
  | cons hst he hes =>
  rw [hst env] at hpl hsp ⊢
  refine callWith_any (s := s) .typ hpl (wpAny_mono hsp (fun vs s1 ⟨G1, g1, B1, r1⟩ => ⟨⟨G1, B1⟩, ?_⟩) fun _ _ e => e)
  have X1 := X.grow g1
  obtain ⟨v1, vs', rfl, q1, r1⟩ := r1.inv
  obtain ⟨v2, vs', rfl, q2, r1⟩ := r1.inv
  obtain rfl := r1.inv0
  obtain ⟨a1, rfl⟩ := q1.tup_ref
  obtain ⟨a2, rfl⟩ := q2.tup_ref
  have hG1 : ∃ o, G1 a1 = some o := by cases q1 with | tup h _ _ _ => exact ⟨_, h⟩
  have hG2 : ∃ o, G1 a2 = some o := by cases q2 with | tup h _ _ _ => exact ⟨_, h⟩
  obtain ⟨o1, ho1⟩ := hG1
  obtain ⟨o2, ho2⟩ := hG2
  obtain ⟨us, hu, ru⟩ := q1.isTup B1
  obtain ⟨ws, hw, rw'⟩ := q2.isTup B1
  have l1 := Heap.lt_size (B1.sat _ _ ho1)
  have l2 := Heap.lt_size (B1.sat _ _ ho2)
  refine call_zip_tups (xs := us.toArray) (ys := ws.toArray) hu hw fun h2 iz iTI iTO ii1 ii2 hk2 => ?_
  refine wpAny_pyIter_zip iz ?_
  obtain ⟨g2, B2⟩ := grown_none K.tabLocal B1 (tk := s1.toks) hk2
  have X2 := X1.grow g2
  refine ⟨B2.nolimit K, ?_⟩
  have hcd : env.code = .ref C.cc := X.code hcode
  -- the rest, from any state that the code's making leaves
  have rest : ∀ (code : Value) (h3 : Heap) (tk3 : Nat), GrS C [] G1 { s1 with heap := h2 } G1 { s1 with heap := h3, toks := tk3 } → Base C G1 { s1 with heap := h3, toks := tk3 } →
      wpAny (model C.prog C.w) A (builtinsFor env.globals env.builtins) (fun bi s₄ =>
        ∃ I fp wr n₀ Pt St₀ Mid pz F, Value.ref (s1.heap.objs.size + 4) = .ref I ∧ (∀ A' : Around, A'.handled = none → WalksU C.prog C.w A' I fp wr n₀ Pt St₀ Mid) ∧ (∀ i vals, Pt i vals → ∃ va vb, vals = #[va, vb]) ∧ St₀ 0 s₄.heap ∧ (∀ b ∈ fp, b < s₄.heap.objs.size) ∧ s₄.heap.NoLimit ∧ cStatics ∉ wr ∧
          (∀ href : Heap, (∀ b o, s₄.heap.get? b = some o → href.get? b = some o) → QuietGenT C.prog C.w (genEnv scope [] s₄.heap.objs.size code bi env) xa xb [] (.BinOp (.Name xa qa) .Add (.Name xb qb) bp) (List.range s₄.heap.objs.size) wr Pt pz F href) ∧
          (∀ a h₅ tk gs, gs.bare = true → s₄.heap.objs.size < a → h₅.objs.size = a + 1 → (∀ b o, s₄.heap.get? b = some o → h₅.get? b = some o) →
            WalksS C.prog C.w A.in4 a (a :: s₄.heap.objs.size :: List.range s₄.heap.objs.size) (s₄.heap.objs.size :: wr) (GenOnlyQ s₄.gens.size) (passing pz n₀ 0).length (fun j y => ∃ i, (passing pz n₀ 0)[j]? = some i ∧ F i y)
              (GenAt C.prog C.w A.in4 a s₄.gens.size s₄.heap.objs.size (List.range s₄.heap.objs.size) wr pz n₀ F) →
            GenAt C.prog C.w A.in4 a s₄.gens.size s₄.heap.objs.size (List.range s₄.heap.objs.size) wr pz n₀ F 0 { s₄ with gens := s₄.gens.push gs, toks := tk, heap := h₅ } →
            wpAny (model C.prog C.w) A (spliced []) (fun vs s₂ => (∃ G1, Base C G1 s₂) ∧ wpAny (model C.prog C.w) A (call (.type "tuple") (.ref a :: vs)) (Post C G s (.tup ds)) NoE s₂) NoE { s₄ with gens := s₄.gens.push gs, toks := tk, heap := h₅ })) NoE { s1 with heap := h3, toks := tk3 } := by
    intro code h3 tk3 g3 B3
    obtain ⟨bm, ob, bns, bname, bne, bobj, bcls, bdict, bdata⟩ := K.bmod
    have bmP : bm ≠ C.P := fun e => by have := K.table0.2; rw [← e, bobj] at this; cases this; cases bcls
    have hglob : ({ s1 with heap := h3, toks := tk3 } : Shared).heap.Ns env.globals C.mg := by rw [X.glob]; exact B3.ns K.g K.gP
    refine wpAny_builtinsFor (s := { s1 with heap := h3, toks := tk3 }) hglob bname bne (B3.sat _ _ (B3.top _ _ bmP bobj)) bcls bdict bdata ?_
    have k3 : ∀ b o, s1.heap.objs.size ≤ b → h2.get? b = some o → h3.get? b = some o := fun b o hb e => g3.keep b o (fun h => nomatch h) (fun q => by
      obtain ⟨p, hp⟩ := K.tabP _ B1.tab
      exact absurd (Heap.lt_size hp) (by rw [← q]; exact Nat.not_lt.mpr hb)) e
    have kf : ∀ b o, G1 b = some o → h3.get? b = some o := fun b o e => B3.sat b o e
    have Z : ZApart (s1.heap.objs.size + 4) (s1.heap.objs.size + 2) (s1.heap.objs.size + 3) s1.heap.objs.size (s1.heap.objs.size + 1) [s1.heap.objs.size, a1] [s1.heap.objs.size + 1, a2] :=
      zapart_new l1 l2
    have tu : h3.IsTuple a1 us.toArray := by obtain ⟨o, ho, r⟩ := hu; rw [B1.sat _ _ ho1] at ho; cases ho; exact ⟨_, kf _ _ ho1, r⟩
    have tw : h3.IsTuple a2 ws.toArray := by obtain ⟨o, ho, r⟩ := hw; rw [B1.sat _ _ ho2] at ho; cases ho; exact ⟨_, kf _ _ ho2, r⟩
    have hmin : min us.toArray.size ws.toArray.size = ds.length := by rw [List.size_toArray, List.size_toArray, ru.length, rw'.length, hlen]
    refine ⟨_, _, _, _, _, _, _, fun _ => true, fun i y => ∃ d, ds[i]? = some d ∧ ∀ G', Rep C G' y d, rfl, fun A' hA' => zip_walks hA' Z (by simp) (by simp) (draws_tup (A := A'.in1) hA' _ a1 (Nat.ne_of_lt l1) us.toArray) (draws_tup (A := A'.in1) hA' _ a2 (Nat.ne_of_lt (Nat.lt_succ_of_lt l2)) ws.toArray),
      fun i vals ⟨_, x, y, _, _, h⟩ => ⟨x, y, h⟩, ⟨k3 _ _ (by omega) iz, k3 _ _ (by omega) iTI, ⟨_, _, k3 _ _ (by omega) iTO⟩, ⟨let ⟨o, ho, r⟩ := ii1; ⟨o, k3 _ _ (by omega) ho, r⟩, tu⟩, ⟨let ⟨o, ho, r⟩ := ii2; ⟨o, k3 _ _ (by omega) ho, r⟩, tw⟩⟩, fun b hb => ?_, B3.nolimit K, ?_, fun href hhref => ?_, ?_⟩
    · have lt : ∀ b, (∃ o, h3.get? b = some o) → b < h3.objs.size := fun b ⟨o, ho⟩ => Heap.lt_size ho
      simp only [List.mem_cons, List.mem_append, List.not_mem_nil, or_false] at hb
      rcases hb with rfl | rfl | rfl | (rfl | rfl) | (rfl | rfl)
      · exact lt _ ⟨_, k3 _ _ (by omega) iz⟩
      · exact lt _ ⟨_, k3 _ _ (by omega) iTI⟩
      · exact lt _ ⟨_, k3 _ _ (by omega) iTO⟩
      · obtain ⟨o, ho, r⟩ := ii1; exact lt _ ⟨o, k3 _ _ (by omega) ho⟩
      · obtain ⟨o, ho, r⟩ := tu; exact lt _ ⟨o, ho⟩
      · obtain ⟨o, ho, r⟩ := ii2; exact lt _ ⟨o, k3 _ _ (by omega) ho⟩
      · obtain ⟨o, ho, r⟩ := tw; exact lt _ ⟨o, ho⟩
    · obtain ⟨mc, hmc, _⟩ := B1.nolimit K
      have h2 : cStatics < s1.heap.objs.size := hmc.lt
      exact fun h => nin_new h2 (Nat.lt_succ_of_lt h2) (List.mem_cons_of_mem _ h)
    · refine ⟨fun A' E' i va vb t m hA' hP hns hma hmb hk => wpAny_tests_nil ⟨rfl, t.heap, t.toks, rfl, fun _ _ e => e⟩, fun A' E' i va vb t m hA' hP _ hns hma hmb hk => ?_⟩
      obtain ⟨hi, x, y, hx, hy, hv⟩ := hP
      obtain ⟨e1, e2⟩ : va = x ∧ vb = y := by simpa using congrArg Array.toList hv
      subst e1 e2
      obtain ⟨dx, hdx, rx⟩ := ru.get' (i := i) (v := va) (by simpa using hx)
      obtain ⟨dy, hdy, ry⟩ := rw'.get' (i := i) (v := vb) (by simpa using hy)
      obtain ⟨d, hd, had⟩ := hadd i dx dy hdx hdy
      refine wpAny_BinOp (wpAny_Name (wpAny_loadName_local hkind hxa hns hma ?_) hda)
      refine wpAny_Name (wpAny_loadName_local hkind hxb hns hmb ?_) hdb
      exact wpAny_mono (add_val had rx ry) (fun y s' ⟨hr, hk'⟩ => ⟨⟨d, hd, hr⟩, hk'⟩) fun _ _ e => e
    · intro a h5 tk gs hbare ha hsz5 hk5 W hst
      have g5 : GrS C [] G1 { s1 with heap := h3, toks := tk3 } G1 { s1 with gens := s1.gens.push gs, toks := tk, heap := h5 } := ⟨fun b o _ _ e => hk5 b o e, rfl, fun _ _ e => e, fun _ _ e => .inl e, id⟩
      have B5 : Base C G1 { s1 with gens := s1.gens.push gs, toks := tk, heap := h5 } := ⟨fun b o e => hk5 b o (B3.sat b o e), B3.top, B3.noP, K.tabLocal _ _ B3.tab fun o e => hk5 _ o e, B3.gens.push hbare⟩
      refine spliced_nil ⟨⟨G1, B5⟩, ?_⟩
      have hlenP : ∀ k, (passing (fun _ => true) k 0) = List.range k := fun k => by simp [passing]
      refine call_tuple_gen W.in4_3 (fun i s h => h.1.typeIs) hst (fun b hb => ?_) List.mem_cons_self (fun s' acc hm hacc => ?_) (by rw [hlenP, List.length_range, hmin, sizeLine_eq]; omega)
      · show b < h5.objs.size
        rw [hsz5]
        replace ha : h3.objs.size < a := ha
        rcases List.mem_cons.mp hb with rfl | hb
        · exact Nat.lt_succ_self _
        · rcases List.mem_cons.mp hb with rfl | hb
          · exact Nat.lt_succ_of_lt ha
          · exact Nat.lt_succ_of_lt (Nat.lt_trans (List.mem_range.mp hb) ha)
      · have gAll := g1.trans (g2.trans (g3.trans g5))
        have below : ∀ b o, s1.heap.get? b = some o → b < h3.objs.size := fun b o e => by
          by_cases hp : b = C.P
          · obtain ⟨q, hq⟩ := K.tabP _ B3.tab; rw [hp]; exact Heap.lt_size hq
          · exact Heap.lt_size ((g2.trans g3).keep b o (fun h => nomatch h) hp e)
        have notw : ∀ b, b < s1.heap.objs.size → b < h3.objs.size → b ∉ (h3.objs.size :: [s1.heap.objs.size + 4, s1.heap.objs.size + 3, s1.heap.objs.size, s1.heap.objs.size + 1]) := fun b hb hb3 => nin_new hb hb3
        have kk : ∀ b o, b < s1.heap.objs.size → b < h3.objs.size → h5.get? b = some o → s'.heap.get? b = some o := fun b o hb hb3 e => hm.heap b o (notw b hb hb3) e
        have G1lt : ∀ b o, G1 b = some o → b < s1.heap.objs.size ∧ b < h3.objs.size := fun b o e => ⟨Heap.lt_size (B1.sat b o e), Heap.lt_size (B3.sat b o e)⟩
        have g6 : GrS C [] G s G1 s' := by
          refine ⟨fun b o hb hp e => ?_, hm.os.trans gAll.os, gAll.sub, gAll.dom, gAll.noP⟩
          have e1 := g1.keep b o hb hp e
          exact kk b o (Heap.lt_size e1) (below b o e1) (gAll.keep b o hb hp e)
        have B6 : Base C G1 s' := by
          refine ⟨fun b o e => kk b o (G1lt b o e).1 (G1lt b o e).2 (B5.sat b o e), B5.top, B5.noP, K.tabLocal _ _ B5.tab fun o e => ?_, AllBare.movedS B5.gens hm⟩
          obtain ⟨q, hq⟩ := K.tabP _ B1.tab
          exact kk _ o (Heap.lt_size hq) (below _ q hq) e
        obtain ⟨G7, g7, B7, r7⟩ := post_push (tk := s'.toks) K B6 (o := { cls := .type "tuple", data := .seq acc }) rfl (d := .tup ds) fun G' hs hg => by
          refine .tup (vs := acc.toList) hg rfl (by rw [Array.toArray_toList]) ?_
          obtain ⟨hasz, hit⟩ := hacc
          rw [hlenP, List.length_range, hmin] at hasz
          have key : ∀ (vs : List Value) (ds : List D), vs.length = ds.length → (∀ (j : Nat) (v : Value), vs[j]? = some v → ∃ d, ds[j]? = some d ∧ Rep C G' v d) → RepL C G' vs ds := by
            intro vs
            induction vs with
            | nil => intro ds hl _; cases ds with | nil => exact .nil | cons => cases hl
            | cons v vs ih =>
              intro ds hl hj
              cases ds with
              | nil => cases hl
              | cons d ds =>
                obtain ⟨d', h1, h2⟩ := hj 0 v rfl
                have : d' = d := by simpa using h1.symm
                subst this
                exact .cons h2 (ih ds (by simpa using hl) fun j v e => by
                  obtain ⟨d2, h3, h4⟩ := hj (j + 1) v (by simpa using e)
                  exact ⟨d2, by simpa using h3, h4⟩)
          refine key _ _ (by rw [Array.length_toList, hasz]) fun j v e => ?_
          obtain ⟨i, hi, d, hd, hr⟩ := hit j v (by simpa using e)
          rw [hlenP] at hi
          have hij : i = j := by
            have := List.getElem?_eq_some_iff.mp hi
            obtain ⟨_, q⟩ := this
            simpa using q.symm
          exact ⟨d, hij ▸ hd, hr G'⟩
        exact ⟨G7, g6.trans g7, B7, r7⟩
  obtain ⟨ps, hok, htab⟩ := code_now K B2
  cases hca : codeAmong gp ps.toList with
  | some cv => exact wpAny_genexprCode_hit (s := { s1 with heap := h2 }) hcd hok hca (rest cv h2 s1.toks (.refl C [] G1 _) B2)
  | none =>
    refine wpAny_genexprCodeX (s := { s1 with heap := h2 }) hcd hok htab hca fun c' h3 tk3 hx _ _ hok3 _ htab3 _ => ?_
    obtain ⟨g3, B3⟩ := base_table (tk := tk3) K B2 hx hok3 htab3
    exact rest (.ref c') h3 tk3 g3 B3
end
end Mine

/-! part 21 -/
namespace Mine
set_option maxRecDepth 100000
section
variable {C : Cx} {n : Nat} {S S' : Sig} {ρ ρc : Rho} {pos p : Pos} {env : Env} {mu F : List Addr} {A : Around} {own : List Str} {G : GMap} {s : Shared}

/-- for k, v in d.items(): body -/
theorem ex_for_items (K : Cok C) {xk xv : Str} {pk pv pt ap cpos : Pos} {kt : Nat} {o : Expr} {body : List Stmt} {l : List (Str × D)} (R : Nat → Rho) (he : Ev C n S ρ o (.dct l)) (hbase : ∀ env, attributeBase o "items" env (eval o env) = eval o env) (hline : (ap.endLine == cpos.line) = true)
    (hf : ∀ env v, foldedSetIterable (.Call (.Attribute o "items" ap) [] [] cpos) env v = pure v) (hk : S.lookup xk = some .local) (hv : S.lookup xv = some .local) (h0 : Sub (R 0) ρ)
    (hb : ∀ i k d, l[i]? = some (k, d) → Exs C n S ((xv, .v d) :: (xk, .v (.str k)) :: R i) body (.nx (R (i + 1)))) :
    Ex C n S ρ (.For (.Tuple [.Name xk pk, .Name xv pv] kt pt) (.Call (.Attribute o "items" ap) [] [] cpos) body [] pos) (.nx (R l.length)) := by
  intro env A mu G s hA B X
  refine wpAny_For ?_ (hf env)
  refine wpAny_Call_method0_late (hbase env) hline (wpAny_mono (he env A mu G s hA B X) (fun v s1 ⟨G1, g1, B1, r1⟩ => ?_) fun _ _ e => e)
  obtain ⟨a, rfl⟩ := r1.dct_ref
  have hG : ∃ o, G1 a = some o := by cases r1 with | dct h _ _ _ => exact ⟨_, h⟩
  obtain ⟨oo, ho⟩ := hG
  obtain ⟨kvs, hd, hsm, hr⟩ := r1.isDict B1
  obtain ⟨ep, hat⟩ := hd.dictAt
  refine ⟨"dict", "dict.items", F.plainAttrs_dict, F.slot_dict_items, F.type_dict_items, hd.typeIs, hd.mapOf.noDict, ?_⟩
  refine method_meetsIn F.slot_dict_items F.entry_dict_items rfl (PySem.evalArgs_none ⟨rfl, hd.typeIs, F.args_dict_items_1 _, _, meets_dict_items (strKind C.prog C.w) a hsm, ⟨kvs, hd⟩, ?_⟩)
  refine wpAny_pyIter_items (kvs := kvs) (ep := ep) (knd := strKind C.prog C.w) ⟨_, Heap.get?_push_size _ rfl, rfl, rfl⟩ (hat.push _) ?_
  obtain ⟨g2, B2⟩ := grown_none K.tabLocal B1 (tk := s1.toks) (h' := s1.heap.push { cls := .type "dict_items", data := .fields #[.ref a] }) fun _ _ e => Heap.get?_push_of_some _ e
  have hit0 := Heap.get?_push_size (s1.heap.push { cls := .type "dict_items", data := .fields #[.ref a] }) (o := { cls := .type "dict_itemiterator", data := .fields #[.none, .bool false, .ref a, .int 0 0, .int kvs.length 0, .int ep 0, .none, .none] }) rfl
  have hitN : (s1.heap.push { cls := .type "dict_items", data := .fields #[.ref a] }).get? (s1.heap.push { cls := .type "dict_items", data := .fields #[.ref a] }).objs.size = none := get_size _
  generalize hIt : (s1.heap.push { cls := .type "dict_items", data := .fields #[.ref a] }).objs.size = it at hit0 hitN ⊢
  obtain ⟨g3, B3⟩ := grown_none K.tabLocal B2 (tk := s1.toks) (h' := (s1.heap.push { cls := .type "dict_items", data := .fields #[.ref a] }).push { cls := .type "dict_itemiterator", data := .fields #[.none, .bool false, .ref a, .int 0 0, .int kvs.length 0, .int ep 0, .none, .none] }) fun _ _ e => Heap.get?_push_of_some _ e
  have hitP : it ≠ C.P := fun e => by obtain ⟨q, hq⟩ := K.tabP _ B2.tab; rw [e] at hitN; rw [hitN] at hq; cases hq
  have g13 := g1.trans (g2.trans g3)
  have hitS : s.heap.get? it = none := none_back K B2 (g1.trans g2) hitN
  have hitG : G1 it = none := B2.fresh hitN
  have hait : a ≠ it := fun e => by rw [e, hitG] at ho; cases ho
  have X3 := X.grow g13
  have hitmu : it ∉ mu := fun h => by obtain ⟨_, _, q, hq⟩ := X.muOk _ h; rw [hitS] at hq; cases hq
  have key : ∀ (ys : List (Str × D)) (i : Nat), l.drop i = ys → i ≤ l.length → ∀ (mu : List Addr) (G : GMap) (s : Shared) (ok ov : Value), Base C G s → EnvOk C S env mu (R i) G s.heap → IsItemIter s.heap it a i kvs.length ep ok ov → it ∉ mu → G it = none →
      (∀ b o, G1 b = some o → G b = some o) →
      codeAny (model C.prog C.w) A (.forLoop (.Tuple [.Name xk pk, .Name xv pv] kt pt) (.ref it) body [] env) (fun r s' => r = .ok .next ∧ ∃ G' mu', GrS C (it :: mu) G s G' s' ∧ Base C G' s' ∧ EnvOk C S env mu' (R l.length) G' s'.heap ∧ ∀ a ∈ mu', a ∈ mu ∨ s.heap.get? a = none) s := by
    intro ys
    induction ys with
    | nil =>
      intro i hi hle mu G s ok ov B X I hitm hGit hsub
      have hil : i = l.length := by have := List.drop_eq_nil_iff.mp hi; omega
      have hat' : s.heap.DictAt (strKind C.prog C.w) a kvs ep := by
        obtain ⟨o', es, ho', r⟩ := hat
        rw [B1.sat _ _ ho] at ho'; cases ho'
        exact ⟨oo, es, B.sat _ _ (hsub _ _ ho), r⟩
      refine codeAny_of_tree ?_
      show wpAny _ A ((forTurn (.Tuple [.Name xk pk, .Name xv pv] kt pt) (.ref it) body [] env).onRaise (fun x => do noteFrame x env; theTreesLotGoes x)) _ _ s
      refine wpAny_noted ?_
      simp only [forTurn]
      refine wpAny_bind (wpAny_standAt (wpAny_bind (wpAny_onRaise (wpAny_pyNext_items_end hA.1 I hat' (by rw [List.getElem?_eq_none_iff, hr.length]; omega) fun h' he' => ?_))))
      have g' : GrS C [it] G s G { s with heap := h' } := ⟨fun b o hb _ e => he' b o (fun q => hb (by rw [q]; exact List.mem_cons_self)) e, rfl, fun _ _ e => e, fun _ _ e => .inl e, id⟩
      have B' : Base C G { s with heap := h' } := ⟨fun b o e => he' b o (fun q => by rw [q, hGit] at e; cases e) (B.sat b o e), B.top, B.noP, K.tabLocal _ _ B.tab fun o e => he' _ o (Ne.symm hitP) e, B.gens⟩
      refine wpAny_pure ⟨rfl, codeAny_block (wpAny_pure ⟨rfl, G, mu, g'.mono (fun b hb => by rw [List.mem_singleton.mp hb]; exact List.mem_cons_self), B', ?_, fun _ h => .inl h⟩)⟩
      rw [← hil]
      exact X.grow' g' fun b hb => by rw [List.mem_singleton.mp hb]; exact hitm
    | cons kd ds ih =>
      obtain ⟨k, d⟩ := kd
      intro i hi hle mu G s ok ov B X I hitm hGit hsub
      have hd : l[i]? = some (k, d) := by
        have : (l.drop i)[0]? = some (k, d) := by rw [hi]; rfl
        rwa [List.getElem?_drop] at this
      have hds : l.drop (i + 1) = ds := by
        have : (l.drop i).drop 1 = ds := by rw [hi]; rfl
        rwa [List.drop_drop] at this
      have hlt : i < l.length := (List.getElem?_eq_some_iff.mp hd).1
      have hat' : s.heap.DictAt (strKind C.prog C.w) a kvs ep := by
        obtain ⟨o', es, ho', r⟩ := hat
        rw [B1.sat _ _ ho] at ho'; cases ho'
        exact ⟨oo, es, B.sat _ _ (hsub _ _ ho), r⟩
      obtain ⟨⟨k', v⟩, hkv⟩ : ∃ p, kvs[i]? = some p := ⟨kvs[i]'(by rw [hr.length]; exact hlt), List.getElem?_eq_getElem _⟩
      obtain ⟨d', hd', hrv⟩ := hr.getE hkv
      rw [hd] at hd'; cases hd'
      refine codeAny_of_tree ?_
      show wpAny _ A ((forTurn (.Tuple [.Name xk pk, .Name xv pv] kt pt) (.ref it) body [] env).onRaise (fun x => do noteFrame x env; theTreesLotGoes x)) _ _ s
      refine wpAny_noted ?_
      simp only [forTurn]
      refine wpAny_bind (wpAny_standAt (wpAny_bind (wpAny_onRaise (wpAny_pyNext_items_item I hat' hkv fun kv h4 hkey hout htup hsz4 hk4 => ?_))))
      obtain ⟨t, rfl⟩ : ∃ t, kv = .str k t := Value.isStrOf_shape hkey
      refine wpAny_bind (wpAny_letOwnedTupleGo_items hout fun h5 hit5 hs5 => ?_)
      replace hs5 : Heap.SameBut it h4 h5 := hs5
      have k5 : ∀ b o, b ≠ it → s.heap.get? b = some o → h5.get? b = some o := fun b o hb e => hs5.extBut b o hb (hk4 b o hb e)
      have g5 : GrS C [it] G s G { s with heap := h5 } := ⟨fun b o hb _ e => k5 b o (fun q => hb (by rw [q]; exact List.mem_cons_self)) e, rfl, fun _ _ e => e, fun _ _ e => .inl e, id⟩
      have B5 : Base C G { s with heap := h5 } := ⟨fun b o e => k5 b o (fun q => by rw [q, hGit] at e; cases e) (B.sat b o e), B.top, B.noP, K.tabLocal _ _ B.tab fun o e => k5 _ o (Ne.symm hitP) e, B.gens⟩
      have X5 := X.grow' g5 fun b hb => by rw [List.mem_singleton.mp hb]; exact hitm
      have hne : s.heap.objs.size ≠ it := Nat.ne_of_gt (Heap.lt_size I)
      have ht5 : ({ s with heap := h5 } : Shared).heap.IsTuple s.heap.objs.size #[.str k t, v] := ⟨_, hs5.extBut _ _ hne htup, rfl, _, rfl⟩
      refine wpAny_bind (wpAny_assign_Tuple hA.1 ht5 rfl rfl fun h6 hx6 => ?_)
      replace hx6 : Heap.ExtBut h5.objs.size h5 h6 := hx6
      obtain ⟨g6, B6⟩ := grown_none K.tabLocal B5 (tk := s.toks) (h' := h6) fun b o e => hx6 b o (Nat.ne_of_lt (Heap.lt_size e)) e
      have I6 : IsItemIter h6 it a (i + 1) kvs.length ep (.str k t) v := hx6 _ _ (Nat.ne_of_lt (Heap.lt_size hit5)) hit5
      refine wpAny_mono (E := NoE) (assign_all (A := A) K [xk, xv] [pk, pv] [.str k, d] [.str k t, v] (R i) G { s with heap := h6 } _ rfl rfl (fun x hx => by
        rcases List.mem_cons.mp hx with rfl | hx
        · exact .inl hk
        · rw [List.mem_singleton.mp hx]; exact .inl hv) B6 (X5.grow g6) (.cons (.str _ _) (.cons (hrv.mono hsub) .nil)) fun s7 g7 B7 X7 => ?_) (fun _ _ e => e) fun _ _ e => e.elim
      have I7 : IsItemIter s7.heap it a (i + 1) kvs.length ep (.str k t) v := g7.keep _ _ hitm hitP I6
      have g57 : GrS C (it :: mu) G s G s7 := g5.seq (mu' := it :: mu) (g6.seq (mu' := it :: mu) g7 (fun b hb => .inl (List.mem_cons_of_mem _ hb)) (fun _ h => nomatch h)) (fun b hb => .inl hb) fun b hb => .inl (by rw [List.mem_singleton.mp hb]; exact List.mem_cons_self)
      refine wpAny_bind (wpAny_mono (hb i k d hd env A mu G s7 hA B7 X7) (fun f s8 ⟨hfn, G8, mu8, g8, B8, X8, hm8⟩ => ?_) fun _ _ e => e.elim)
      subst hfn
      have hitm8 : it ∉ mu8 := fun h => by
        rcases hm8 it h with q | q
        · exact hitm q
        · rw [I7] at q; cases q
      have I8 : IsItemIter s8.heap it a (i + 1) kvs.length ep (.str k t) v := g8.keep _ _ hitm hitP I7
      have hG8it : G8 it = none := none_keep g8 hGit hitm ⟨_, I7⟩
      have back : ∀ b, s7.heap.get? b = none → s.heap.get? b = none := fun b q => by
        cases q1 : s.heap.get? b with
        | none => rfl
        | some o =>
          by_cases hin : b ∈ it :: mu
          · rcases List.mem_cons.mp hin with rfl | h
            · rw [I7] at q; cases q
            · obtain ⟨_, _, o', ho'⟩ := X7.muOk b h; rw [ho'] at q; cases q
          · by_cases hp : b = C.P
            · obtain ⟨o', ho'⟩ := K.tabP _ B7.tab; rw [hp, ho'] at q; cases q
            · have := g57.keep b o hin hp q1; rw [q] at this; cases this
      have hm8' : ∀ b ∈ mu8, b ∈ mu ∨ s.heap.get? b = none := fun b hb => (hm8 b hb).imp id (back b)
      have g58 : GrS C (it :: mu) G s G8 s8 := g57.seq g8 (fun b hb => .inl (List.mem_cons_of_mem _ hb)) fun b hb => .inl hb
      refine wpAny_pure ⟨rfl, codeAny_mono (ih (i + 1) hds hlt mu8 G8 s8 _ _ B8 X8 I8 hitm8 hG8it (fun b o e => g8.sub b o (hsub b o e))) fun r s9 ⟨hr9, G9, mu9, g9, B9, X9, hm9⟩ => ?_⟩
      refine ⟨hr9, G9, mu9, g58.seq g9 (fun b hb => ?_) (fun b hb => .inl hb), B9, X9, fun b hb => ?_⟩
      · rcases List.mem_cons.mp hb with rfl | h
        · exact .inl List.mem_cons_self
        · exact (hm8' b h).imp (fun q => List.mem_cons_of_mem _ q) id
      · rcases hm9 b hb with h | h
        · exact hm8' b h
        · cases q1 : s.heap.get? b with
          | none => exact .inr rfl
          | some o =>
            by_cases hin : b ∈ it :: mu
            · rcases List.mem_cons.mp hin with rfl | h'
              · rw [I8] at h; cases h
              · exact .inl h'
            · by_cases hp : b = C.P
              · obtain ⟨o', ho'⟩ := K.tabP _ B8.tab; rw [hp, ho'] at h; cases h
              · have := g58.keep b o hin hp q1; rw [h] at this; cases this
  refine codeAny_mono (key l 0 rfl (Nat.zero_le _) mu G1 _ .none .none B3 (X3.weaken h0) hit0 hitmu hitG fun _ _ e => e) fun r s3 ⟨hr3, G4, mu4, g4, B4, X4, hm4⟩ => ?_
  subst hr3
  refine ⟨rfl, G4, mu4, g13.seq g4 (fun b hb => ?_) (fun _ h => nomatch h), B4, X4, fun b hb => (hm4 b hb).imp id fun q => none_back K B3 g13 q⟩
  rcases List.mem_cons.mp hb with rfl | h
  · exact .inr hitS
  · exact .inl h
end
end Mine

/-! part 22 -/
namespace Mine
set_option maxRecDepth 100000

def fbody (k : Nat) : List Stmt := match PySem.Challenge.pw_rl0152_01.main.body[k]? with | some (.FunctionDef _ _ b _ _ _ _ _ _ _) => b | _ => []
def fscope (k : Nat) : Scope := match PySem.Challenge.pw_rl0152_01.main.body[k]? with | some (.FunctionDef _ _ _ _ _ _ s _ _ _) => s | _ => default
def fpar (k : Nat) : Arguments := match PySem.Challenge.pw_rl0152_01.main.body[k]? with | some (.FunctionDef _ a _ _ _ _ _ _ _ _) => a | _ => default
def fname (k : Nat) : Str := match PySem.Challenge.pw_rl0152_01.main.body[k]? with | some (.FunctionDef n _ _ _ _ _ _ _ _ _) => n | _ => default

def BltIs (C : Cx) (x : Str) (f : Value) : Prop := C.mg x = none ∧ C.mb x = some f
/-- what stands behind the names that the code uses -/
structure Glob (C : Cx) : Prop where
  K : Cok C
  len : BltIs C (Str.ofString "len") (.builtin "len")
  range : BltIs C (Str.ofString "range") (.type "range")
  sum : BltIs C (Str.ofString "sum") (.builtin "sum")
  min : BltIs C (Str.ofString "min") (.builtin "min")
  tuple : BltIs C (Str.ofString "tuple") (.type "tuple")
  list : BltIs C (Str.ofString "list") (.type "list")
  str : BltIs C (Str.ofString "str") (.type "str")
  isi : BltIs C (Str.ofString "isinstance") (.builtin "isinstance")
  zip : BltIs C (Str.ofString "zip") (.type "zip")
  fn : ∀ k, k ∈ [1, 2, 3, 5, 6, 7, 8] → ∃ a, C.mg (fname k) = some (.ref a) ∧ FunAt C a (fname k) (fpar k) (fbody k) (fscope k)

theorem FnOk.up {C : Cx} {m n : Nat} {f : Value} {ds : List D} {d : D} (h : FnOk C m f ds d) (hm : m ≤ n) : FnOk C n f ds d := fun A G s vs hA B r => h A G s vs (hA.le hm) B r

def scopeChk (names S : Sig) (own : List Str) : Bool :=
  names.all (fun p => p.2 != .free || (S.lookup p.1 == some .cell || S.lookup p.1 == some .free)) && names.all (fun p => p.2 != .free || !(names.contains (p.1, NameKind.cell))) && own.all (fun x => names.contains (x, NameKind.cell)) &&
    (relS names S).lookup (Str.ofString "zip") == none && names.all (fun p => p.2 != .local || names.lookup p.1 == some .local)

theorem scopeChk_ok {names S : Sig} {own : List Str} (h : scopeChk names S own = true) : ScopeOk names S (relS names S) own ∧ NamesOk names := by
  unfold scopeChk at h
  simp only [Bool.and_eq_true, List.all_eq_true, beq_iff_eq, Bool.or_eq_true, bne_iff_ne, ne_eq, Bool.not_eq_true', List.contains_iff_mem] at h
  obtain ⟨⟨⟨⟨h1, h2⟩, h3⟩, h4⟩, h5⟩ := h
  refine ⟨⟨rfl, fun x hx => ?_, fun x hx => ?_, h3, h4⟩, fun y hy hl => ?_⟩
  · rcases h1 _ hx with q | q
    · exact absurd rfl q
    · exact q
  · rcases h2 _ hx with q | q
    · exact absurd rfl q
    · intro hc; have := List.contains_iff_mem.mpr hc; rw [q] at this; cases this
  · rcases h5 _ hy with q | q
    · exact absurd hl q
    · exact q

def capB (names S' : Sig) (x : Str) : Bool := names.contains (x, NameKind.free) && (S'.lookup x == some .cell || S'.lookup x == some .free)
theorem capt_nil {ρ : Rho} {names S S' : Sig} : ∀ p ∈ ([] : Rho), Capt ρ names S S' p := fun _ h => nomatch h
theorem capt_cons {ρ ρc : Rho} {names S S' : Sig} {x : Str} {d : D} (h : ρ.lookup x = some (.v d)) (hb : capB names S' x = true) (hr : ∀ p ∈ ρc, Capt ρ names S S' p) : ∀ p ∈ ((x, Bd.v d) :: ρc), Capt ρ names S S' p := by
  intro p hp
  rcases List.mem_cons.mp hp with rfl | hp
  · unfold capB at hb
    simp only [Bool.and_eq_true, Bool.or_eq_true, beq_iff_eq, List.contains_iff_mem] at hb
    exact ⟨h, ⟨d, rfl⟩, hb.1, hb.2⟩
  · exact hr p hp

section
variable {C : Cx} {n : Nat} {S : Sig} {ρ ρc : Rho} {pos : Pos} {own : List Str}

def ownB (S' : Sig) (own : List Str) (x : Str) : Bool := S'.lookup x == some .local || (S'.lookup x == some .cell && own.contains x)
theorem ownB_ok {S' : Sig} {x : Str} (h : ownB S' own x = true) : S'.lookup x = some .local ∨ (S'.lookup x = some .cell ∧ x ∈ own) := by
  unfold ownB at h
  simpa only [Bool.or_eq_true, Bool.and_eq_true, beq_iff_eq, List.contains_iff_mem] using h

theorem listcomp (K : Cok C) {elt : Expr} {scope : Scope} {x : Str} {px : Pos} {iter : Expr} {ifs : List Expr} {gs : List Comprehension} {xs : List D} {out : List D} (own : List Str)
    (hk : scope.kind = .function) (hchk : scopeChk scope.names S own = true) (hρ : ∀ p ∈ ρc, Capt ρ scope.names S (relS scope.names S) p)
    (hit : It C n S ρ iter xs) (hf : ∀ env v, foldedSetIterable iter env v = pure v) (hS : ownB (relS scope.names S) own x = true) (hx : ρc.lookup x = none) (hif : ifs.length ≤ 1)
    (hcx : CX C n (relS scope.names S) own (fun ρ d => Ev C n (relS scope.names S) ρ elt d) x ifs gs ρc xs out) (hlen : out.length ≤ 1000) : Ev C n S ρ (.ListComp elt (⟨.Name x px, iter, ifs, 0⟩ :: gs) scope pos) (.lst out) :=
  ev_listcomp K hk (scopeChk_ok hchk).2 (scopeChk_ok hchk).1 hρ hit hf (ownB_ok hS) hx hif hcx hlen

/-- a comprehension's plain clause: each item gives one -/
theorem cx_maps {own : List Str} {α β : Type} {Em : Rho → α → Prop} {x : Str} (g : β → D) (f : β → α) : ∀ {cs : List β}, (∀ c ∈ cs, Em ((x, .v (g c)) :: ρ) (f c)) → CX C n S own Em x [] [] ρ (cs.map g) (cs.map f)
  | [], _ => .nil
  | c :: cs, h => CX.take (C := C) (n := n) (S := S) (own := own) (ifs := []) (gs := []) .nil (.emit (h c List.mem_cons_self)) (cx_maps g f fun e he => h e (List.mem_cons_of_mem _ he))

theorem nm (K : Cok C) {x : Str} {f : Value} (h : BltIs C x f) (hS : S.lookup x = some .globalImplicit) (hd : (x == ("__debug__" : Str)) = false := by decide) : NameV C S (.Name x pos) f := nameV_builtin K hS h.1 h.2 hd
end

section
variable {C : Cx}
/-- weights of a text -/
def wt (w : Nat → Int) (x : Str) : Int := (x.cps.toList.map w).sum

theorem weigh_body (H : Glob C) {x : Str} {W : List (Str × D)} {w : Nat → Int} (hc : ∀ c ∈ x.cps.toList, dget W ⟨#[c]⟩ = some (.int (w c))) (hl : x.length ≤ 1000) :
    Exs C 0 (fscope 6).names [(Str.ofString "text", .v (.str x)), (Str.ofString "worth", .v (.dct W))] (fbody 6) (.rt (.int (wt w x))) := by
  refine exs_ret ?_
  refine ev_call (nm H.K H.sum (by rfl)) .blt (.cons (fun _ => rfl) (d := .lst ((x.cps.toList.map w).map .int)) ?_ .nil) (fn_sum H.K)
  refine listcomp H.K (ρc := [(Str.ofString "worth", .v (.dct W))]) [] rfl (by decide +kernel) (capt_cons (by rfl) (by decide +kernel) capt_nil) (It.of H.K (ev_name (by rfl)) (iter_str H.K)) (fun _ _ => rfl) (by decide +kernel) (by rfl) (by simp) ?_ ?_
  · rw [List.map_map]
    exact cx_maps (fun c => .str ⟨#[c]⟩) _ fun c hcc => ev_subD (EvD.of (ev_name (by rfl))) (ev_name (by rfl)) (hc c hcc) fun _ _ => rfl
  · simp only [List.length_map]; exact hl
end
end Mine

/-! part 23 -/
namespace Mine
set_option maxRecDepth 100000

/-- texts in one -/
def cat (xs : List Str) : Str := Txt.join (Str.ofString "") xs
theorem cat_eq (xs : List Str) : cat xs = Str.join ⟨#[]⟩ xs := by
  have := join_plain_closes (Str.ofString "") xs
  unfold cat
  exact eq_of_beq this
theorem cat_nil : cat [] = Str.empty := by rw [cat_eq]; rfl
theorem cat_cons (x : Str) (xs : List Str) : cat (x :: xs) = x ++ cat xs := by rw [cat_eq, cat_eq, PyProof.Rows.join_nil_cons]
theorem cat_app (xs ys : List Str) : cat (xs ++ ys) = cat xs ++ cat ys := by
  induction xs with
  | nil => rw [cat_nil, List.nil_append, Str.empty_append]
  | cons x xs ih => rw [List.cons_append, cat_cons, cat_cons, ih, Str.append_assoc]
theorem cat_one (x : Str) : cat [x] = x := by rw [cat_cons, cat_nil, Str.append_empty]
theorem cat_len (xs : List Str) : (cat xs).length = (xs.map (·.length)).sum := by
  induction xs with
  | nil => rw [cat_nil]; rfl
  | cons x xs ih => rw [cat_cons, Str.length_append, ih]; rfl
theorem wt_app (w : Nat → Int) (x y : Str) : wt w (x ++ y) = wt w x + wt w y := by
  unfold wt; rw [Str.cps_append, Array.toList_append, List.map_append, List.sum_append]
theorem wt_empty (w : Nat → Int) : wt w Str.empty = 0 := rfl

inductive Row where
  | s (x : Str)
  | t (l : List Str)
structure Ent where
  a1 : Str
  a2 : Str
  a3 : Str
  a4 : Str
  ca : List (Str × Row)
def Row.d : Row → D
  | .s x => .str x
  | .t l => .tup (l.map .str)
def Row.w (w : Nat → Int) : Row → D
  | .s x => .int (wt w x)
  | .t l => .tup (l.map fun x => .int (wt w x))
def amap {α β : Type} (f : α → β) (l : List (Str × α)) : List (Str × β) := l.map fun p => (p.1, f p.2)
def caD (l : List (Str × Row)) : List (Str × D) := amap Row.d l
def caW (w : Nat → Int) (l : List (Str × Row)) : List (Str × D) := amap (Row.w w) l
def Ent.d (e : Ent) : D := .tup [.str e.a1, .str e.a2, .str e.a3, .str e.a4, .dct (caD e.ca)]
def Ent.w (w : Nat → Int) (e : Ent) : D := .tup [.int (wt w e.a1), .int (wt w e.a2), .int (wt w e.a3), .int (wt w e.a4), .dct (caW w e.ca)]

def alook {α : Type} (l : List (Str × α)) (k : Str) : Option α := (l.find? fun kv => kv.1 = k).map (·.2)
def aput {α : Type} (l : List (Str × α)) (k : Str) (a : α) : List (Str × α) :=
  if l.any (fun kv => kv.1 = k) then l.map (fun kv => if kv.1 = k then (kv.1, a) else kv) else l ++ [(k, a)]
theorem dget_amap {α : Type} (f : α → D) (l : List (Str × α)) (k : Str) : dget (amap f l) k = (alook l k).map f := by
  unfold dget alook amap
  induction l with
  | nil => rfl
  | cons p l ih =>
    rw [List.map_cons, List.find?_cons, List.find?_cons]
    by_cases h : p.1 = k
    · simp [h]
    · simp only [h, decide_false]; exact ih
theorem dput_amap {α : Type} (f : α → D) (l : List (Str × α)) (k : Str) (a : α) : dput (amap f l) k (f a) = amap f (aput l k a) := by
  unfold dput aput amap
  have e : ((l.map fun p => (p.1, f p.2)).any fun kv => kv.1 = k) = l.any fun kv => kv.1 = k := by rw [List.any_map]; rfl
  rw [e]
  split
  · rw [List.map_map, List.map_map]
    refine List.map_congr_left fun p _ => ?_
    show (if p.1 = k then (p.1, f a) else (p.1, f p.2)) = _
    by_cases h : p.1 = k <;> simp [h]
  · rw [List.map_append]; rfl

/-- one leaf -/
def whos : List Str := [Str.ofString "f", Str.ofString "<g>", Str.ofString "h", Str.ofString ""]
def whichOf (n : Int) (turn : Nat) : Int := (n + turn).fmod 4
def muchOf (n : Int) (turn : Nat) : Int := (n.fdiv (5 ^ (whichOf n turn).toNat) + whichOf n turn + 2).fmod 6
def leafRow (letter : Str) (n : Int) (turn : Nat) : Row :=
  if (whichOf n turn).fmod 2 ≠ 0 then .s (Txt.mul letter (muchOf n turn - 1))
  else .t ((List.range (muchOf n turn - 1).toNat).map fun place => Txt.mul letter (1 + (n + (place : Nat)).fmod 2))
def leafStep (letter : Str) (n : Int) (acc : List (Str × Row)) (turn : Nat) : List (Str × Row) :=
  if muchOf n turn ≠ 0 then aput acc (whos.getD (whichOf n turn).toNat Str.empty) (leafRow letter n turn) else acc
def leafCa (letter : Str) (n : Int) (i : Nat) : List (Str × Row) := (List.range i).foldl (leafStep letter n) []
def leafE (n : Int) (letter : Str) : Ent := ⟨Txt.mul letter (n.fmod 3), Txt.mul letter ((n + 1).fmod 3), Txt.mul letter ((n.fdiv 3).fmod 3), Txt.mul letter ((n.fdiv 9).fmod 3), leafCa letter n 4⟩

theorem leafCa_len (letter : Str) (n : Int) (i : Nat) : (leafCa letter n i).length ≤ i := by
  induction i with
  | zero => exact Nat.le_refl _
  | succ i ih =>
    unfold leafCa at ih ⊢
    rw [List.range_succ, List.foldl_append, List.foldl_cons, List.foldl_nil]
    generalize List.foldl (leafStep letter n) [] (List.range i) = acc at ih
    unfold leafStep aput
    split
    · split
      · rw [List.length_map]; omega
      · rw [List.length_append, List.length_singleton]; omega
    · omega
theorem leafCa_succ (letter : Str) (n : Int) (i : Nat) : leafCa letter n (i + 1) = leafStep letter n (leafCa letter n i) i := by
  unfold leafCa; rw [List.range_succ, List.foldl_append]; rfl

theorem fmod_lo (a : Int) {b : Int} (h : 0 < b) : 0 ≤ a.fmod b := Int.fmod_nonneg_of_pos a h
theorem fmod_hi (a : Int) {b : Int} (h : 0 < b) : a.fmod b < b := Int.fmod_lt_of_pos a h

theorem sub_nil {ρ : Rho} : Sub [] ρ := fun _ _ h => nomatch h
theorem sub_cons {ρ ρ2 : Rho} {x : Str} {b : Bd} (h : ρ.lookup x = some b) (hr : Sub ρ2 ρ) : Sub ((x, b) :: ρ2) ρ := fun y c hy => by
  rw [List.lookup_cons] at hy
  by_cases q : y = x
  · subst q; rw [beq_self_eq_true] at hy; cases hy; exact h
  · have q' : (y == x) = false := by simpa using q
    rw [q'] at hy; exact hr y c hy
theorem oo_nil {x : Str} : OnlyOwn [] x := fun _ _ h => nomatch h
theorem oo_v {ρ : Rho} {x y : Str} {d : D} (h : OnlyOwn ρ x) : OnlyOwn ((y, .v d) :: ρ) x := fun z l hz => by
  rw [List.lookup_cons] at hz
  cases q : z == y with
  | true => rw [q] at hz; cases hz
  | false => rw [q] at hz; exact h z l hz
theorem oo_own {ρ : Rho} {x : Str} {l : List (Str × D)} (h : OnlyOwn ρ x) : OnlyOwn ((x, .own l) :: ρ) x := fun z l' hz => by
  rw [List.lookup_cons] at hz
  cases q : z == x with
  | true => exact eq_of_beq q
  | false => rw [q] at hz; exact h z l' hz
section
variable {C : Cx} {n : Nat} {S : Sig} {ρ : Rho} {pos : Pos}
theorem tst_int_t {e : Expr} {i : Int} (h : Ev C n S ρ e (.int i)) (he : ∀ env whole, isTrue e env whole = (do let v ← whole; standAt e.pos; holding [v] (truthy v))) (hi : i ≠ 0) : Tst C n S ρ e true := by
  have := tst_int h he; rwa [show (i != 0) = true by simpa using hi] at this
theorem tst_int_f {e : Expr} {i : Int} (h : Ev C n S ρ e (.int i)) (he : ∀ env whole, isTrue e env whole = (do let v ← whole; standAt e.pos; holding [v] (truthy v))) (hi : i = 0) : Tst C n S ρ e false := by
  have := tst_int h he; rwa [show (i != 0) = false by simp [hi]] at this
theorem ex_if_t (K : Cok C) {test : Expr} {body orelse : List Stmt} {o : Out} (h1 : Tst C n S ρ test true) (h2 : Exs C n S ρ body o) : Ex C n S ρ (.If test body orelse pos) o := ex_if h1 h2 K
theorem ex_if_f (K : Cok C) {test : Expr} {body orelse : List Stmt} {o : Out} (h1 : Tst C n S ρ test false) (h2 : Exs C n S ρ orelse o) : Ex C n S ρ (.If test body orelse pos) o := ex_if h1 h2 K
theorem exs_last (K : Cok C) {st : Stmt} {ρ1 : Rho} (h : Ex C n S ρ st (.nx ρ1)) : Exs C n S ρ [st] (.nx ρ1) := exs_cons K h exs_nil
theorem exs_end {ρ2 : Rho} (hs : Sub ρ2 ρ) : Exs C n S ρ [] (.nx ρ2) := exs_weaken exs_nil hs
theorem exs_one (K : Cok C) {st : Stmt} {ρ1 ρ2 : Rho} (h : Ex C n S ρ st (.nx ρ1)) (hs : Sub ρ2 ρ1) : Exs C n S ρ [st] (.nx ρ2) := exs_weaken (exs_cons K h exs_nil) hs
end

def forBody : Option Stmt → List Stmt
  | some (Stmt.For _ _ b _ _) => b
  | _ => []

section
variable {C : Cx}
theorem leaf_turn (H : Glob C) {n : Int} {letter : Str} (hl : letter.length ≤ 10) (turn : Nat) :
    let ρ : Rho := [(Str.ofString "n", .v (.int n)), (Str.ofString "letter", .v (.str letter)), (Str.ofString "callers", .own (caD (leafCa letter n turn)))]
    turn < 4 → Exs C 0 (fscope 5).names ((Str.ofString "turn", .v (.int turn)) :: ρ) (forBody (fbody 5)[1]?)
      (.nx [(Str.ofString "n", .v (.int n)), (Str.ofString "letter", .v (.str letter)), (Str.ofString "callers", .own (caD (leafCa letter n (turn + 1))))]) := by
  intro ρ ht
  have K := H.K
  have hw0 := fmod_lo (n + turn) (b := 4) (by decide)
  have hw1 := fmod_hi (n + turn) (b := 4) (by decide)
  have hpow : ((5 : Int) ^ (whichOf n turn).toNat).natAbs < 1073741824 ∧ (5 : Int) ^ (whichOf n turn).toNat ≠ 0 := by
    have h4 : (whichOf n turn).toNat < 4 := by unfold whichOf; omega
    generalize (whichOf n turn).toNat = k at h4
    match k, h4 with
    | 0, _ => decide
    | 1, _ => decide
    | 2, _ => decide
    | 3, _ => decide
  refine exs_cons K (ex_assign K (.inl (by rfl)) (ev_bin (ev_bin (ev_name (by rfl)) (ev_name (by rfl)) bin_add_int) ev_int (bin_mod_int (by decide))) (fun _ _ => rfl)) ?_
  refine exs_cons K (ex_assign K (.inl (by rfl)) (ev_bin (ev_bin (ev_bin (ev_bin (ev_name (by rfl)) (ev_bin ev_int (ev_name (by rfl)) (bin_pow_int (by exact hw0) (by unfold whichOf at *; omega) (by decide))) (bin_div_int (by exact hpow.2) (by exact hpow.1))) (ev_name (by rfl)) bin_add_int) ev_int bin_add_int) ev_int (bin_mod_int (by decide))) (fun _ _ => rfl)) ?_
  have hwho : [D.str (Str.ofString "f"), D.str (Str.ofString "<g>"), D.str (Str.ofString "h"), D.str (Str.ofString "")][((n + turn).fmod 4).toNat]? = some (.str (whos.getD (whichOf n turn).toNat Str.empty)) := by
    show _ = some (D.str (whos.getD ((n + turn).fmod 4).toNat Str.empty))
    have h4 : ((n + turn).fmod 4).toNat < 4 := by omega
    generalize ((n + turn).fmod 4).toNat = k at h4
    match k, h4 with
    | 0, _ => rfl
    | 1, _ => rfl
    | 2, _ => rfl
    | 3, _ => rfl
  refine exs_cons K (ex_assign K (.inl (by rfl)) (ev_sub (ev_tuple K (.cons (fun _ => rfl) ev_str (.cons (fun _ => rfl) ev_str (.cons (fun _ => rfl) ev_str (.cons (fun _ => rfl) ev_str .nil)))) (by simp)) (ev_name (by rfl)) (fun _ _ => rfl) (item_tup hw0 (by omega) hwho)) (fun _ _ => rfl)) ?_
  have hm0 : 0 ≤ muchOf n turn := fmod_lo _ (by decide)
  have hm1 : muchOf n turn < 6 := fmod_hi _ (by decide)
  have hacc : (caD (leafCa letter n turn)).length ≤ 1000 := by unfold caD amap; rw [List.length_map]; have := leafCa_len letter n turn; omega
  by_cases hm : muchOf n turn = 0
  · -- no row
    have hs : leafCa letter n (turn + 1) = leafCa letter n turn := by rw [leafCa_succ, leafStep, if_neg (by simpa using hm)]
    rw [hs]
    refine exs_last K (ex_if_f K (tst_and (.stop (tst_int_f (ev_name (by rfl)) (fun _ _ => rfl) (by exact hm)))) (exs_last K (ex_if_f K (tst_int_f (ev_name (by rfl)) (fun _ _ => rfl) (by exact hm)) (exs_end ?_))))
    exact sub_cons (by rfl) (sub_cons (by rfl) (sub_cons (by rfl) sub_nil))
  · have hs : caD (leafCa letter n (turn + 1)) = dput (caD (leafCa letter n turn)) (whos.getD (whichOf n turn).toNat Str.empty) (leafRow letter n turn).d := by
      rw [leafCa_succ, leafStep, if_pos hm]; exact (dput_amap Row.d _ _ _).symm
    rw [hs]
    by_cases hw : (whichOf n turn).fmod 2 = 0
    · refine exs_last K (ex_if_f K (tst_and (.go (tst_int_t (ev_name (by rfl)) (fun _ _ => rfl) (by exact hm)) (.stop (tst_int_f (ev_bin (ev_name (by rfl)) ev_int (bin_mod_int (by decide))) (fun _ _ => rfl) (by exact hw))))) (exs_last K (ex_if_t K (tst_int_t (ev_name (by rfl)) (fun _ _ => rfl) (by exact hm)) ?_)))
      rw [leafRow, if_neg (by simpa using hw)]
      refine exs_one K (ex_setitem K (by rfl) (by exact oo_v (oo_v (oo_v (oo_v (oo_v (oo_v (oo_own oo_nil))))))) ?_ (ev_name (by rfl)) hacc (fun _ => rfl)) (sub_cons (by rfl) (sub_cons (by rfl) (sub_cons (by rfl) sub_nil)))
      have hk : ((muchOf n turn - 1).toNat : Int) = muchOf n turn - 1 := by omega
      have e1 : (leafRow letter n turn).d = .tup ((List.range (muchOf n turn - 1).toNat).map fun place => D.str (Txt.mul letter (1 + (n + (place : Nat)).fmod 2))) := by
        rw [leafRow, if_neg (by simpa using hw)]; show D.tup ((List.map _ _).map D.str) = _; rw [List.map_map]; rfl
      rw [leafRow, if_neg (by simpa using hw)] at e1
      rw [e1]
      refine ev_call (nm K H.tuple (by rfl)) .typ (.cons (fun _ => rfl) ?_ .nil) (fn_tuple_lst K (by rw [List.length_map, List.length_range]; omega))
      refine listcomp K (ρc := [(Str.ofString "letter", .v (.str letter)), (Str.ofString "n", .v (.int n))]) [] rfl (by decide +kernel) (capt_cons (by rfl) (by decide +kernel) (capt_cons (by rfl) (by decide +kernel) capt_nil))
        (xs := nums (muchOf n turn - 1).toNat) (it_range K (nm K H.range (by rfl)) ?_ (by omega) (fun _ => rfl)) (fun _ _ => rfl) (by decide +kernel) (by rfl) (by simp) ?_ (by rw [List.length_map, List.length_range]; omega)
      · rw [hk]; exact ev_bin (ev_name (by rfl)) ev_int bin_sub_int
      · refine cx_maps (fun (i : Nat) => D.int (i : Int)) _ fun p _ => ?_
        have q0 := fmod_lo (n + (p : Nat)) (b := 2) (by decide)
        have q1 := fmod_hi (n + (p : Nat)) (b := 2) (by decide)
        exact ev_bin (ev_name (by rfl)) (ev_bin ev_int (ev_bin (ev_bin (ev_name (by rfl)) (ev_name (by rfl)) bin_add_int) ev_int (bin_mod_int (by decide))) bin_add_int) (bin_mul_str (by omega) (by omega) (by omega))
    · refine exs_last K (ex_if_t K (tst_and (.go (tst_int_t (ev_name (by rfl)) (fun _ _ => rfl) (by exact hm)) (.go (tst_int_t (ev_bin (ev_name (by rfl)) ev_int (bin_mod_int (by decide))) (fun _ _ => rfl) (by exact hw)) .nil))) ?_)
      rw [leafRow, if_pos hw]
      refine exs_one K (ex_setitem K (by rfl) (by exact oo_v (oo_v (oo_v (oo_v (oo_v (oo_v (oo_own oo_nil))))))) (ev_bin (ev_name (by rfl)) (ev_bin (ev_name (by rfl)) ev_int bin_sub_int) (bin_mul_str ?_ ?_ ?_)) (ev_name (by rfl)) hacc (fun _ => rfl)) (sub_cons (by rfl) (sub_cons (by rfl) (sub_cons (by rfl) sub_nil)))
      · show -1000 ≤ muchOf n turn - 1; omega
      · show muchOf n turn - 1 ≤ 1000; omega
      · omega
end
end Mine

/-! part 24 -/
namespace Mine
set_option maxRecDepth 100000
section
variable {C : Cx}

theorem nums_get {k i : Nat} {d : D} (h : (nums k)[i]? = some d) : i < k ∧ d = .int i := by
  unfold nums at h
  rw [List.getElem?_map] at h
  obtain ⟨j, hj, rfl⟩ := Option.map_eq_some_iff.mp h
  have hlt := (List.getElem?_eq_some_iff.mp hj).1
  rw [List.length_range] at hlt
  rw [List.getElem?_range hlt] at hj
  cases hj
  exact ⟨hlt, rfl⟩
theorem nofree {names : Sig} (h : names.all (fun p => p.2 != .free) = true) : ∀ x, names.lookup x ≠ some .free := fun x hx => by
  have := List.all_eq_true.mp h _ (mem_of_lookup hx)
  simp at this

/-- a name holds a function that does as said -/
def Has (C : Cx) (x : Str) (m : Nat) (P : List D → D → Prop) : Prop := ∃ f, C.mg x = some f ∧ Callable C f ∧ ∀ ds d, P ds d → FnOk C m f ds d

theorem leaf_body (H : Glob C) {n : Int} {letter : Str} (hl : letter.length ≤ 10) :
    Exs C 0 (fscope 5).names [(Str.ofString "n", .v (.int n)), (Str.ofString "letter", .v (.str letter))] (fbody 5) (.rt (leafE n letter).d) := by
  have K := H.K
  have m3 : ∀ a : Int, 0 ≤ a.fmod 3 ∧ a.fmod 3 < 3 := fun a => ⟨fmod_lo a (by decide), fmod_hi a (by decide)⟩
  refine exs_cons K (ex_newdict K (.inl (by rfl))) ?_
  refine exs_cons K (ex_for K (xs := nums 4) (fun i => [(Str.ofString "n", .v (.int n)), (Str.ofString "letter", .v (.str letter)), (Str.ofString "callers", .own (caD (leafCa letter n i)))])
    (it_range K (nm K H.range (by rfl)) ev_int (by decide) (fun _ => rfl)) (fun _ _ => rfl) (.inl (by rfl)) (sub_cons (by rfl) (sub_cons (by rfl) (sub_cons (by rfl) sub_nil))) fun i d hd => ?_) ?_
  · have hi := nums_get hd
    obtain ⟨hi, rfl⟩ := hi
    exact leaf_turn H hl i hi
  · refine exs_freeze (x := Str.ofString "callers") K (by rfl) (by exact oo_v (oo_v (oo_own oo_nil))) (exs_ret ?_)
    refine ev_tuple K (.cons (fun _ => rfl) (ev_bin (ev_name (by rfl)) (ev_bin (ev_name (by rfl)) ev_int (bin_mod_int (by decide))) (bin_mul_str ?_ ?_ ?_)) (.cons (fun _ => rfl) (ev_bin (ev_name (by rfl)) (ev_bin (ev_bin (ev_name (by rfl)) ev_int bin_add_int) ev_int (bin_mod_int (by decide))) (bin_mul_str ?_ ?_ ?_))
      (.cons (fun _ => rfl) (ev_bin (ev_name (by rfl)) (ev_bin (ev_bin (ev_name (by rfl)) ev_int (bin_div_int (by decide) (by decide))) ev_int (bin_mod_int (by decide))) (bin_mul_str ?_ ?_ ?_)) (.cons (fun _ => rfl) (ev_bin (ev_name (by rfl)) (ev_bin (ev_bin (ev_name (by rfl)) ev_int (bin_div_int (by decide) (by decide))) ev_int (bin_mod_int (by decide))) (bin_mul_str ?_ ?_ ?_))
      (.cons (fun _ => rfl) (ev_name (by rfl)) .nil))))) (by simp)
    · have := m3 n; omega
    · have := m3 n; omega
    · omega
    · have := m3 (n + 1); omega
    · have := m3 (n + 1); omega
    · omega
    · have := m3 (n.fdiv 3); omega
    · have := m3 (n.fdiv 3); omega
    · omega
    · have := m3 (n.fdiv 9); omega
    · have := m3 (n.fdiv 9); omega
    · omega

theorem has_leaf (H : Glob C) : Has C (Str.ofString "_law_leaf") 1 (fun ds d => ∃ n letter, letter.length ≤ 10 ∧ ds = [.int n, .str letter] ∧ d = (leafE n letter).d) := by
  obtain ⟨a, ha, hf⟩ := H.fn 5 (by simp)
  refine ⟨.ref a, ha, hf.callable, ?_⟩
  rintro ds d ⟨n, letter, hl, rfl, rfl⟩
  exact fn_user2 (x1 := Str.ofString "n") (x2 := Str.ofString "letter") H.K hf (by decide) (fun _ _ _ _ _ => rfl) (nofree (by decide +kernel)) (.inr (by rfl)) (.inr (by rfl)) rfl rfl rfl (leaf_body H hl)
theorem has_weigh (H : Glob C) : Has C (Str.ofString "_law_weigh") 1 (fun ds d => ∃ x W w, (∀ c ∈ x.cps.toList, dget W ⟨#[c]⟩ = some (.int (w c))) ∧ x.length ≤ 1000 ∧ ds = [.str x, .dct W] ∧ d = .int (wt w x)) := by
  obtain ⟨a, ha, hf⟩ := H.fn 6 (by simp)
  refine ⟨.ref a, ha, hf.callable, ?_⟩
  rintro ds d ⟨x, W, w, hc, hl, rfl, rfl⟩
  exact fn_user2 (x1 := Str.ofString "text") (x2 := Str.ofString "worth") H.K hf (by decide) (fun _ _ _ _ _ => rfl) (nofree (by decide +kernel)) (.inl (by rfl)) (.inr (by rfl)) rfl rfl rfl (weigh_body H hc hl)
end
end Mine

/-! part 25 -/
namespace Mine
set_option maxRecDepth 100000

def keys {α : Type} (l : List (Str × α)) : List Str := l.map (·.1)
theorem alook_get {α : Type} : ∀ {l : List (Str × α)}, (keys l).Nodup → ∀ {i : Nat} {k : Str} {a : α}, l[i]? = some (k, a) → alook l k = some a
  | [], _, i, k, a, h => by simp at h
  | p :: l, hn, 0, k, a, h => by simp at h; subst h; simp [alook]
  | p :: l, hn, i + 1, k, a, h => by
    rw [keys, List.map_cons, List.nodup_cons] at hn
    have h' : l[i]? = some (k, a) := by simpa using h
    have hne : p.1 ≠ k := fun e => hn.1 (List.mem_map.mpr ⟨(k, a), List.mem_of_getElem? h', e.symm⟩)
    have := alook_get hn.2 h'
    unfold alook at this ⊢
    rw [List.find?_cons]
    simpa [hne] using this
theorem alook_mem {α : Type} {l : List (Str × α)} (hn : (keys l).Nodup) {k : Str} {a : α} (h : (k, a) ∈ l) : alook l k = some a := by
  obtain ⟨i, hi, he⟩ := List.mem_iff_getElem.mp h
  exact alook_get hn (i := i) (by rw [List.getElem?_eq_getElem hi, he])
theorem alook_some {α : Type} {l : List (Str × α)} {k : Str} {a : α} (h : alook l k = some a) : (k, a) ∈ l := by
  unfold alook at h
  obtain ⟨p, hp, rfl⟩ := Option.map_eq_some_iff.mp h
  have h1 := List.find?_some hp
  have h2 : p.1 = k := by simpa using h1
  subst h2
  exact List.mem_of_find?_eq_some hp
theorem alook_none {α : Type} {l : List (Str × α)} {k : Str} (h : k ∉ keys l) : alook l k = none := by
  cases e : alook l k with
  | none => rfl
  | some a => exact absurd (List.mem_map.mpr ⟨_, alook_some e, rfl⟩) h
theorem aput_new {α : Type} {l : List (Str × α)} {k : Str} {a : α} (h : k ∉ keys l) : aput l k a = l ++ [(k, a)] := by
  unfold aput
  rw [if_neg]
  simp only [List.any_eq_true, decide_eq_true_eq, not_exists, not_and]
  intro p hp e
  exact h (List.mem_map.mpr ⟨p, hp, e⟩)
theorem keys_amap {α β : Type} (f : α → β) (l : List (Str × α)) : keys (amap f l) = keys l := by unfold keys amap; rw [List.map_map]; rfl
theorem take_snoc {α : Type} {l : List α} {i : Nat} {a : α} (h : l[i]? = some a) : l.take (i + 1) = l.take i ++ [a] := by rw [List.take_add_one, h]; rfl
theorem key_new {α : Type} {l : List (Str × α)} (hn : (keys l).Nodup) {i : Nat} {k : Str} {a : α} (h : l[i]? = some (k, a)) : k ∉ keys (l.take i) := fun hm => by
  obtain ⟨⟨k', a'⟩, hm', hk'⟩ := List.mem_map.mp hm
  dsimp only at hk'
  subst hk'
  obtain ⟨j, hj, he⟩ := List.mem_iff_getElem.mp hm'
  have hj' : j < i := by rw [List.length_take] at hj; omega
  rw [List.getElem_take] at he
  have hi := (List.getElem?_eq_some_iff.mp h).1
  have e1 : (keys l)[j]? = some k' := by unfold keys; rw [List.getElem?_map, List.getElem?_eq_getElem (by omega), he]; rfl
  have e2 : (keys l)[i]? = some k' := by unfold keys; rw [List.getElem?_map, h]; rfl
  have := (List.getElem?_inj (by unfold keys; rw [List.length_map]; omega) hn).mp (e1.trans e2.symm)
  omega

/-- the table of weights covers a text -/
def Cov (W : List (Str × D)) (w : Nat → Int) (x : Str) : Prop := (∀ c ∈ x.cps.toList, dget W ⟨#[c]⟩ = some (.int (w c))) ∧ x.length ≤ 1000
def RCov (W : List (Str × D)) (w : Nat → Int) : Row → Prop
  | .s x => Cov W w x
  | .t l => (∀ x ∈ l, Cov W w x) ∧ l.length ≤ 1000
structure ECov (W : List (Str × D)) (w : Nat → Int) (e : Ent) : Prop where
  a1 : Cov W w e.a1
  a2 : Cov W w e.a2
  a3 : Cov W w e.a3
  a4 : Cov W w e.a4
  ca : ∀ p ∈ e.ca, RCov W w p.2
  nd : (keys e.ca).Nodup
  len : e.ca.length ≤ 1000

section
variable {C : Cx} {n : Nat} {S : Sig} {ρ : Rho} {pos : Pos}
theorem keysD_get {l : List (Str × Row)} {i : Nat} {d : D} (h : (keysD (caD l))[i]? = some d) : ∃ k r, l[i]? = some (k, r) ∧ d = .str k := by
  unfold keysD caD amap at h
  rw [List.map_map, List.getElem?_map] at h
  obtain ⟨⟨k, r⟩, hp, rfl⟩ := Option.map_eq_some_iff.mp h
  exact ⟨k, r, hp, rfl⟩

/-- weighing a text in a frame that holds the table -/
theorem ev_weigh (H : Glob C) {np : Pos} {e1 e2 : Expr} {x : Str} {W : List (Str × D)} {w : Nat → Int} (hc : Cov W w x) (hS : S.lookup (Str.ofString "_law_weigh") = some .globalImplicit) (h1 : Ev C 1 S ρ e1 (.str x)) (h2 : Ev C 1 S ρ e2 (.dct W))
    (hs1 : ∀ env, starEach [e1, e2] env = (false, eval e1 env) :: starEach [e2] env) (hs2 : ∀ env, starEach [e2] env = (false, eval e2 env) :: starEach [] env) : Ev C 1 S ρ (.Call (.Name (Str.ofString "_law_weigh") np) [e1, e2] [] pos) (.int (wt w x)) := by
  obtain ⟨f, hg, hcal, hf⟩ := has_weigh H
  exact ev_call (nameV_global H.K hS hg) hcal (.cons hs1 h1 (.cons hs2 h2 .nil)) (hf _ _ ⟨x, W, w, hc.1, hc.2, rfl, rfl⟩)

theorem weighed_body (H : Glob C) {e : Ent} {W : List (Str × D)} {w : Nat → Int} (hc : ECov W w e) :
    Exs C 1 (fscope 7).names [(Str.ofString "entry", .v e.d), (Str.ofString "worth", .v (.dct W))] (fbody 7) (.rt (e.w w)) := by
  have K := H.K
  refine exs_cons K (ex_newdict K (.inl (by rfl))) ?_
  have it4 : ∀ {ρ : Rho} {p1 p2 p3 : Pos}, ρ.lookup (Str.ofString "entry") = some (.v e.d) → Ev C 1 (fscope 7).names ρ (.Subscript (.Name (Str.ofString "entry") p1) (.Constant (.int 4) 0 p2) p3) (.dct (caD e.ca)) := fun h => ev_sub (ev_name h) ev_int (fun _ _ => rfl) (item_tup (by decide) (by decide) rfl)
  refine exs_cons K (ex_for K (xs := keysD (caD e.ca)) (fun i => [(Str.ofString "entry", .v e.d), (Str.ofString "worth", .v (.dct W)), (Str.ofString "callers", .own (caW w (e.ca.take i)))])
    (It.of K (it4 (by rfl)) (iter_dct K)) (fun _ _ => rfl) (.inl (by rfl)) (sub_cons (by rfl) (sub_cons (by rfl) (sub_cons (by rfl) sub_nil))) fun i d hd => ?_) ?_
  · obtain ⟨k, r, hkr, rfl⟩ := keysD_get hd
    have hr : dget (caD e.ca) k = some r.d := by unfold caD; rw [dget_amap, alook_get hc.nd hkr]; rfl
    have hrc := hc.ca _ (List.mem_of_getElem? hkr)
    have hput : dput (caW w (e.ca.take i)) k (r.w w) = caW w (e.ca.take (i + 1)) := by
      unfold caW; rw [dput_amap, aput_new (key_new hc.nd hkr), take_snoc hkr]
    have hlen : (caW w (e.ca.take i)).length ≤ 1000 := by unfold caW amap; rw [List.length_map, List.length_take]; have := hc.len; omega
    refine exs_cons K (ex_assign K (.inl (by rfl)) (ev_subD (EvD.of (it4 (by rfl))) (ev_name (by rfl)) hr fun _ _ => rfl) (fun _ _ => rfl)) ?_
    rw [← hput]
    cases r with
    | s x =>
      refine exs_last K (ex_if_t K (tst_bool (ev_isinstance (T := "str") (d := .str x) (nm K H.isi (by rfl)) (nm K H.str (by rfl)) (ev_name (by rfl)) (fun _ => rfl) (.inl ⟨rfl, rfl⟩)) fun _ _ => rfl) ?_)
      exact exs_one K (ex_setitem K (by rfl) (by exact oo_v (oo_v (oo_v (oo_v (oo_own oo_nil))))) (ev_weigh H hrc (by rfl) (ev_name (by rfl)) (ev_name (by rfl)) (fun _ => rfl) (fun _ => rfl)) (ev_name (by rfl)) hlen (fun _ => rfl)) (sub_cons (by rfl) (sub_cons (by rfl) (sub_cons (by rfl) sub_nil)))
    | t l =>
      refine exs_last K (ex_if_f K (tst_bool (ev_isinstance (T := "str") (d := .tup (l.map .str)) (nm K H.isi (by rfl)) (nm K H.str (by rfl)) (ev_name (by rfl)) (fun _ => rfl) (.inl ⟨rfl, rfl⟩)) fun _ _ => rfl) ?_)
      refine exs_one K (ex_setitem K (by rfl) (by exact oo_v (oo_v (oo_v (oo_v (oo_own oo_nil))))) ?_ (ev_name (by rfl)) hlen (fun _ => rfl)) (sub_cons (by rfl) (sub_cons (by rfl) (sub_cons (by rfl) sub_nil)))
      refine ev_call (nm K H.tuple (by rfl)) .typ (.cons (fun _ => rfl) ?_ .nil) (fn_tuple_lst K (by rw [List.length_map]; exact hrc.2))
      refine listcomp K (ρc := [(Str.ofString "worth", .v (.dct W))]) [] rfl (by decide +kernel) (capt_cons (by rfl) (by decide +kernel) capt_nil) (It.of K (ev_name (by rfl)) (iter_tup K)) (fun _ _ => rfl) (by decide +kernel) (by rfl) (by simp) ?_ (by rw [List.length_map]; exact hrc.2)
      exact cx_maps D.str _ fun x hx => ev_weigh H (hrc.1 x hx) (by rfl) (ev_name (by rfl)) (ev_name (by rfl)) (fun _ => rfl) (fun _ => rfl)
  · have hkl : (keysD (caD e.ca)).length = e.ca.length := by unfold keysD caD amap; rw [List.length_map, List.length_map]
    rw [hkl, List.take_length]
    refine exs_freeze (x := Str.ofString "callers") K (by rfl) (by exact oo_v (oo_v (oo_own oo_nil))) (exs_ret ?_)
    refine ev_bin (d1 := .tup [.int (wt w e.a1), .int (wt w e.a2), .int (wt w e.a3), .int (wt w e.a4)]) (d2 := .tup [.dct (caW w e.ca)]) ?_ (ev_tuple K (.cons (fun _ => rfl) (ev_name (by rfl)) .nil) (by simp)) (bin_add_tup K (by simp) (by simp) (by simp))
    refine ev_call (nm K H.tuple (by rfl)) .typ (.cons (fun _ => rfl) ?_ .nil) (fn_tuple_lst K (by simp))
    refine listcomp K (ρc := [(Str.ofString "worth", .v (.dct W))]) [] rfl (by decide +kernel) (capt_cons (by rfl) (by decide +kernel) capt_nil) (It.of K (ev_four K (d4 := .dct (caD e.ca)) (ev_name (by rfl)) ev_int) (iter_tup K)) (fun _ _ => rfl) (by decide +kernel) (by rfl) (by simp) ?_ (by simp)
    refine cx_maps (cs := [e.a1, e.a2, e.a3, e.a4]) D.str (fun x => D.int (wt w x)) fun x hx => ev_weigh H ?_ (by rfl) (ev_name (by rfl)) (ev_name (by rfl)) (fun _ => rfl) (fun _ => rfl)
    simp only [List.mem_cons, List.not_mem_nil, or_false] at hx
    rcases hx with rfl | rfl | rfl | rfl
    · exact hc.a1
    · exact hc.a2
    · exact hc.a3
    · exact hc.a4

theorem has_weighed (H : Glob C) : Has C (Str.ofString "_law_weighed") 2 (fun ds d => ∃ e W w, ECov W w e ∧ ds = [e.d, .dct W] ∧ d = e.w w) := by
  obtain ⟨a, ha, hf⟩ := H.fn 7 (by simp)
  refine ⟨.ref a, ha, hf.callable, ?_⟩
  rintro ds d ⟨e, W, w, hc, rfl, rfl⟩
  exact fn_user2 (x1 := Str.ofString "entry") (x2 := Str.ofString "worth") H.K hf (by decide) (fun _ _ _ _ _ => rfl) (nofree (by decide +kernel)) (.inl (by rfl)) (.inr (by rfl)) rfl rfl rfl (weighed_body H hc)
end
end Mine

/-! part 26 -/
namespace Mine
set_option maxRecDepth 100000

def addD : D → D → D
  | .int a, .int b => .int (a + b)
  | .str x, .str y => .str (x ++ y)
  | d, _ => d
inductive AddOk : D → D → Prop
  | int (a b : Int) : AddOk (.int a) (.int b)
  | str (x y : Str) : x.length + y.length ≤ 1000000 → AddOk (.str x) (.str y)
theorem AddOk.addD {d1 d2 : D} (h : AddOk d1 d2) : AddD d1 d2 (addD d1 d2) := by
  cases h with
  | int a b => exact .int a b
  | str x y h => exact .str x y h
/-- what stands (first) and what comes (second) -/
def combD : D → D → D
  | .int a, .int b => .int (a + b)
  | .str x, .str y => .str (x ++ y)
  | .tup xs, .tup ys => .tup (List.zipWith addD ys xs)
  | d, _ => d
inductive CombOk : D → D → Prop
  | int (a b : Int) : CombOk (.int a) (.int b)
  | str (x y : Str) : x.length + y.length ≤ 1000000 → CombOk (.str x) (.str y)
  | tup (xs ys : List D) : (∀ x ∈ xs, ∀ y ∈ ys, AddOk y x) → xs.length ≤ 1000 → CombOk (.tup xs) (.tup ys)

def stepD (acc : List (Str × D)) (p : Str × D) : List (Str × D) := match dget acc p.1 with | some d0 => dput acc p.1 (combD d0 p.2) | none => dput acc p.1 p.2
def mergeD (t s : List (Str × D)) : List (Str × D) := s.foldl stepD t

theorem dget_eq (l : List (Str × D)) (k : Str) : dget l k = alook l k := rfl
theorem dput_eq (l : List (Str × D)) (k : Str) (d : D) : dput l k d = aput l k d := rfl
theorem stepD_len (acc : List (Str × D)) (p : Str × D) : (stepD acc p).length ≤ acc.length + 1 := by
  unfold stepD; split <;> exact dput_length ..
theorem mergeD_len : ∀ (s t : List (Str × D)), (mergeD t s).length ≤ t.length + s.length
  | [], t => by unfold mergeD; simp
  | p :: s, t => by
    unfold mergeD at *
    rw [List.foldl_cons]
    have := mergeD_len s (stepD t p)
    unfold mergeD at this
    have := stepD_len t p
    rw [List.length_cons]; omega

section
variable {C : Cx}
theorem tst_in' {n : Nat} {S : Sig} {ρ : Rho} {pos : Pos} {l r : Expr} {k : Str} {ds : List (Str × D)} {b : Bool} (h1 : Ev C n S ρ l (.str k)) (h2 : EvD C n S ρ r ds) (hb : behindInMarks .In r = false) (h : (dget ds k).isSome = b) : Tst C n S ρ (.Compare l [.In] [r] pos) b := h ▸ tst_in h1 h2 hb
theorem tst_notin' {n : Nat} {S : Sig} {ρ : Rho} {pos : Pos} {l r : Expr} {k : Str} {ds : List (Str × D)} {b : Bool} (h1 : Ev C n S ρ l (.str k)) (h2 : EvD C n S ρ r ds) (hb : behindInMarks .NotIn r = false) (h : (!(dget ds k).isSome) = b) : Tst C n S ρ (.Compare l [.NotIn] [r] pos) b := h ▸ tst_notin h1 h2 hb
theorem callers_body (H : Glob C) {t s : List (Str × D)} (ht : (keys t).Nodup) (hlen : t.length + s.length ≤ 1000)
    (hok : ∀ (i : Nat) (k : Str) (d d0 : D), s[i]? = some (k, d) → dget (mergeD t (s.take i)) k = some d0 → CombOk d0 d) :
    Exs C 0 (fscope 2).names [(Str.ofString "target", .v (.dct t)), (Str.ofString "source", .v (.dct s))] (fbody 2) (.rt (.dct (mergeD t s))) := by
  have K := H.K
  refine exs_cons K (ex_newdict K (.inl (by rfl))) ?_
  refine exs_cons K (ex_for_items K (fun i => [(Str.ofString "target", .v (.dct t)), (Str.ofString "source", .v (.dct s)), (Str.ofString "new_callers", .own (t.take i))]) (ev_name (by rfl)) (fun _ => rfl) (by rfl) (fun _ _ => rfl) (by rfl) (by rfl)
    (sub_cons (by rfl) (sub_cons (by rfl) (sub_cons (by rfl) sub_nil))) fun i k d hd => ?_) ?_
  · have hput : dput (t.take i) k d = t.take (i + 1) := by rw [dput_eq, aput_new (key_new ht hd), take_snoc hd]
    rw [← hput]
    exact exs_one K (ex_setitem K (by rfl) (by exact oo_v (oo_v (oo_v (oo_v (oo_own oo_nil))))) (ev_name (by rfl)) (ev_name (by rfl)) (by rw [List.length_take]; omega) (fun _ => rfl)) (sub_cons (by rfl) (sub_cons (by rfl) (sub_cons (by rfl) sub_nil)))
  rw [List.take_length]
  refine exs_cons K (ex_for_items K (fun i => [(Str.ofString "target", .v (.dct t)), (Str.ofString "source", .v (.dct s)), (Str.ofString "new_callers", .own (mergeD t (s.take i)))]) (ev_name (by rfl)) (fun _ => rfl) (by rfl) (fun _ _ => rfl) (by rfl) (by rfl)
    (sub_cons (by rfl) (sub_cons (by rfl) (sub_cons (by rfl) sub_nil))) fun i k d hd => ?_) ?_
  · have hst : mergeD t (s.take (i + 1)) = stepD (mergeD t (s.take i)) (k, d) := by unfold mergeD; rw [take_snoc hd, List.foldl_append]; rfl
    have hl : (mergeD t (s.take i)).length ≤ 1000 := by have := mergeD_len (s.take i) t; rw [List.length_take] at this; omega
    rw [hst]
    cases hg : dget (mergeD t (s.take i)) k with
    | none =>
      have e : stepD (mergeD t (s.take i)) (k, d) = dput (mergeD t (s.take i)) k d := by unfold stepD; rw [hg]
      rw [e]
      refine exs_last K (ex_if_f K (tst_in' (ev_name (by rfl)) (EvD.own (by rfl)) rfl (by rw [hg]; rfl)) ?_)
      exact exs_one K (ex_setitem K (by rfl) (by exact oo_v (oo_v (oo_v (oo_v (oo_own oo_nil))))) (ev_name (by rfl)) (ev_name (by rfl)) hl (fun _ => rfl)) (sub_cons (by rfl) (sub_cons (by rfl) (sub_cons (by rfl) sub_nil)))
    | some d0 =>
      have e : stepD (mergeD t (s.take i)) (k, d) = dput (mergeD t (s.take i)) k (combD d0 d) := by unfold stepD; rw [hg]
      rw [e]
      refine exs_last K (ex_if_t K (tst_in' (ev_name (by rfl)) (EvD.own (by rfl)) rfl (by rw [hg]; rfl)) ?_)
      cases hok i k d d0 hd hg with
      | int a b =>
        refine exs_last K (ex_if_f K (tst_bool (ev_isinstance (T := "tuple") (d := .int b) (nm K H.isi (by rfl)) (nm K H.tuple (by rfl)) (ev_name (by rfl)) (fun _ => rfl) (.inr ⟨rfl, rfl⟩)) fun _ _ => rfl) ?_)
        exact exs_one K (ex_aug_item K (by rfl) (by exact oo_v (oo_v (oo_v (oo_v (oo_own oo_nil))))) (ev_name (by rfl)) hg (ev_name (by rfl)) iadd_ints hl) (sub_cons (by rfl) (sub_cons (by rfl) (sub_cons (by rfl) sub_nil)))
      | str x y hsz =>
        refine exs_last K (ex_if_f K (tst_bool (ev_isinstance (T := "tuple") (d := .str y) (nm K H.isi (by rfl)) (nm K H.tuple (by rfl)) (ev_name (by rfl)) (fun _ => rfl) (.inr ⟨rfl, rfl⟩)) fun _ _ => rfl) ?_)
        exact exs_one K (ex_aug_item K (by rfl) (by exact oo_v (oo_v (oo_v (oo_v (oo_own oo_nil))))) (ev_name (by rfl)) hg (ev_name (by rfl)) (iadd_strs hsz) hl) (sub_cons (by rfl) (sub_cons (by rfl) (sub_cons (by rfl) sub_nil)))
      | tup xs ys hadd hxl =>
        refine exs_last K (ex_if_t K (tst_bool (ev_isinstance (T := "tuple") (d := .tup ys) (nm K H.isi (by rfl)) (nm K H.tuple (by rfl)) (ev_name (by rfl)) (fun _ => rfl) (.inr ⟨rfl, rfl⟩)) fun _ _ => rfl) ?_)
        refine exs_one K (ex_setitem (d := .tup (List.zipWith addD ys xs)) K (by rfl) (by exact oo_v (oo_v (oo_v (oo_v (oo_own oo_nil))))) ?_ (ev_name (by rfl)) hl (fun _ => rfl)) (sub_cons (by rfl) (sub_cons (by rfl) (sub_cons (by rfl) sub_nil)))
        refine ev_tuple_zip K (xs := ys) (ys := xs) (nm K H.tuple (by rfl)) (nm K H.zip (by rfl)) (by rfl) (.cons (fun _ => rfl) (ev_name (by rfl)) (.cons (fun _ => rfl) (ev_subD (EvD.own (by rfl)) (ev_name (by rfl)) hg fun _ _ => rfl) .nil)) (fun i x y hx hy => ?_) (by rw [List.length_zipWith]) (by rw [List.length_zipWith]; omega)
          rfl (by decide +kernel) (by decide +kernel) (by rfl) (by rfl) (by rfl) (by decide +kernel) rfl (by decide) (by decide) (fun _ _ => rfl)
        refine ⟨addD x y, ?_, (hadd y (List.mem_of_getElem? hy) x (List.mem_of_getElem? hx)).addD⟩
        rw [List.getElem?_zipWith, hx, hy]
  · rw [List.take_length]
    exact exs_freeze (x := Str.ofString "new_callers") K (by rfl) (by exact oo_v (oo_v (oo_own oo_nil))) (exs_ret (ev_name (by rfl)))

theorem has_callers (H : Glob C) : Has C (Str.ofString "add_callers") 1 (fun ds d => ∃ t s, (keys t).Nodup ∧ t.length + s.length ≤ 1000 ∧ (∀ (i : Nat) (k : Str) (d d0 : D), s[i]? = some (k, d) → dget (mergeD t (s.take i)) k = some d0 → CombOk d0 d) ∧
    ds = [.dct t, .dct s] ∧ d = .dct (mergeD t s)) := by
  obtain ⟨a, ha, hf⟩ := H.fn 2 (by simp)
  refine ⟨.ref a, ha, hf.callable, ?_⟩
  rintro ds d ⟨t, s, ht, hl, hok, rfl, rfl⟩
  exact fn_user2 (x1 := Str.ofString "target") (x2 := Str.ofString "source") H.K hf (by decide) (fun _ _ _ _ _ => rfl) (nofree (by decide +kernel)) (.inl (by rfl)) (.inl (by rfl)) rfl rfl rfl (callers_body H ht hl hok)

theorem binAdd {n : Nat} {d1 d2 : D} (h : AddOk d1 d2) : BinOk C n .Add d1 d2 (addD d1 d2) := by
  cases h with
  | int a b => exact bin_add_int
  | str x y h => exact bin_add_str h

theorem stats_body (H : Glob C) {t1 t2 t3 t4 s1 s2 s3 s4 : D} {t s : List (Str × D)} (h1 : AddOk s1 t1) (h2 : AddOk s2 t2) (h3 : AddOk s3 t3) (h4 : AddOk s4 t4) (ht : (keys t).Nodup) (hlen : t.length + s.length ≤ 1000)
    (hok : ∀ (i : Nat) (k : Str) (d d0 : D), s[i]? = some (k, d) → dget (mergeD t (s.take i)) k = some d0 → CombOk d0 d) :
    Exs C 1 (fscope 1).names [(Str.ofString "target", .v (.tup [t1, t2, t3, t4, .dct t])), (Str.ofString "source", .v (.tup [s1, s2, s3, s4, .dct s]))] (fbody 1) (.rt (.tup [addD s1 t1, addD s2 t2, addD s3 t3, addD s4 t4, .dct (mergeD t s)])) := by
  have K := H.K
  obtain ⟨f, hg, hcal, hf⟩ := has_callers H
  refine exs_cons K (ex_unpack K (xs := [Str.ofString "cc", Str.ofString "nc", Str.ofString "tt", Str.ofString "ct", Str.ofString "callers"]) (ps := [_, _, _, _, _]) (ev_name (by rfl)) (by rfl) (by rfl) (by decide +kernel) (fun _ => rfl) (fun _ => rfl)) ?_
  refine exs_cons K (ex_unpack K (xs := [Str.ofString "t_cc", Str.ofString "t_nc", Str.ofString "t_tt", Str.ofString "t_ct", Str.ofString "t_callers"]) (ps := [_, _, _, _, _]) (ev_name (by rfl)) (by rfl) (by rfl) (by decide +kernel) (fun _ => rfl) (fun _ => rfl)) ?_
  refine exs_ret (ev_tuple K (.cons (fun _ => rfl) (ev_bin (ev_name (by rfl)) (ev_name (by rfl)) (binAdd h1)) (.cons (fun _ => rfl) (ev_bin (ev_name (by rfl)) (ev_name (by rfl)) (binAdd h2)) (.cons (fun _ => rfl) (ev_bin (ev_name (by rfl)) (ev_name (by rfl)) (binAdd h3))
    (.cons (fun _ => rfl) (ev_bin (ev_name (by rfl)) (ev_name (by rfl)) (binAdd h4)) (.cons (fun _ => rfl) ?_ .nil))))) (by simp))
  exact ev_call (nameV_global K (by rfl) hg) hcal (.cons (fun _ => rfl) (ev_name (by rfl)) (.cons (fun _ => rfl) (ev_name (by rfl)) .nil)) (hf _ _ ⟨t, s, ht, hlen, hok, rfl, rfl⟩)

theorem has_stats (H : Glob C) : Has C (Str.ofString "add_func_stats") 2 (fun ds d => ∃ t1 t2 t3 t4 s1 s2 s3 s4 t s, AddOk s1 t1 ∧ AddOk s2 t2 ∧ AddOk s3 t3 ∧ AddOk s4 t4 ∧ (keys t).Nodup ∧ t.length + s.length ≤ 1000 ∧
    (∀ (i : Nat) (k : Str) (d d0 : D), s[i]? = some (k, d) → dget (mergeD t (s.take i)) k = some d0 → CombOk d0 d) ∧ ds = [.tup [t1, t2, t3, t4, .dct t], .tup [s1, s2, s3, s4, .dct s]] ∧ d = .tup [addD s1 t1, addD s2 t2, addD s3 t3, addD s4 t4, .dct (mergeD t s)]) := by
  obtain ⟨a, ha, hf⟩ := H.fn 1 (by simp)
  refine ⟨.ref a, ha, hf.callable, ?_⟩
  rintro ds d ⟨t1, t2, t3, t4, s1, s2, s3, s4, t, s, h1, h2, h3, h4, ht, hl, hok, rfl, rfl⟩
  exact fn_user2 (x1 := Str.ofString "target") (x2 := Str.ofString "source") H.K hf (by decide) (fun _ _ _ _ _ => rfl) (nofree (by decide +kernel)) (.inl (by rfl)) (.inl (by rfl)) rfl rfl rfl (stats_body H h1 h2 h3 h4 ht hl hok)

theorem count_body (H : Glob C) {l : List (Str × Int)} : Exs C 0 (fscope 3).names [(Str.ofString "callers", .v (.dct (amap .int l)))] (fbody 3) (.rt (.int (l.map (·.2)).sum)) := by
  have K := H.K
  refine exs_cons K (ex_assign K (.inl (by rfl)) ev_int (fun _ _ => rfl)) ?_
  refine exs_cons K (ex_for K (xs := valsD (amap D.int l)) (fun i => [(Str.ofString "callers", .v (.dct (amap .int l))), (Str.ofString "nc", .v (.int ((l.take i).map (·.2)).sum))]) (it_values K (ev_name (by rfl)) (fun _ => rfl) (by rfl)) (fun _ _ => rfl) (.inl (by rfl))
    (sub_cons (by rfl) (sub_cons (by rfl) sub_nil)) fun i d hd => ?_) ?_
  · have hx : ∃ k x, l[i]? = some (k, x) ∧ d = .int x := by
      unfold valsD amap at hd
      rw [List.map_map, List.getElem?_map] at hd
      obtain ⟨⟨k, x⟩, hp, rfl⟩ := Option.map_eq_some_iff.mp hd
      exact ⟨k, x, hp, rfl⟩
    obtain ⟨k, x, hx, rfl⟩ := hx
    have e : ((l.take (i + 1)).map (·.2)).sum = ((l.take i).map (·.2)).sum + x := by rw [take_snoc hx, List.map_append, List.sum_append]; simp
    rw [e]
    exact exs_one K (ex_aug_int K (by rfl) (by rfl) (ev_name (by rfl))) (sub_cons (by rfl) (sub_cons (by rfl) sub_nil))
  · have hl : (valsD (amap D.int l)).length = l.length := by unfold valsD amap; rw [List.length_map, List.length_map]
    rw [hl, List.take_length]
    exact exs_ret (ev_name (by rfl))
theorem has_count (H : Glob C) : Has C (Str.ofString "count_calls") 1 (fun ds d => ∃ l : List (Str × Int), ds = [.dct (amap .int l)] ∧ d = .int (l.map (·.2)).sum) := by
  obtain ⟨a, ha, hf⟩ := H.fn 3 (by simp)
  refine ⟨.ref a, ha, hf.callable, ?_⟩
  rintro ds d ⟨l, rfl, rfl⟩
  exact fn_user1 (x1 := Str.ofString "callers") H.K hf (fun _ _ _ _ => rfl) (nofree (by decide +kernel)) (.inl (by rfl)) rfl rfl rfl (count_body H)
end
end Mine

/-! part 27 -/
namespace Mine
set_option maxRecDepth 100000

def Ent.at (e : Ent) : Nat → Str
  | 0 => e.a1
  | 1 => e.a2
  | 2 => e.a3
  | _ => e.a4
def rowsOf (es : List Ent) (k : Str) : List Row := es.filterMap fun e => alook e.ca k
def strOf : Row → Str
  | .s x => x
  | .t _ => Str.empty
def lstOf : Row → List Str
  | .s _ => []
  | .t l => l
def short (ls : List (List Str)) : Nat := match ls with
  | [] => 0
  | l :: r => r.foldl (fun m l => min m l.length) l.length
def joinT (ls : List (List Str)) : List Str := (List.range (short ls)).map fun p => cat (ls.reverse.map fun l => l.getD p Str.empty)
def joinRows (rows : List Row) : Row := match rows with
  | .s x :: r => .s (cat ((Row.s x :: r).map strOf))
  | rows => .t (joinT (rows.map lstOf))
def toldStep (es : List Ent) (acc : List (Str × Row)) (k : Str) : List (Str × Row) := if k ∈ keys acc then acc else acc ++ [(k, joinRows (rowsOf es k))]
def toldAcc (es : List Ent) (ks : List Str) : List (Str × Row) := ks.foldl (toldStep es) []
def toldCa (es : List Ent) : List (Str × Row) := toldAcc es (es.flatMap fun e => keys e.ca)
def toldE (es : List Ent) : Ent := ⟨cat (es.reverse.map (·.a1)), cat (es.reverse.map (·.a2)), cat (es.reverse.map (·.a3)), cat (es.reverse.map (·.a4)), toldCa es⟩

def RLen : Row → Prop
  | .s x => x.length ≤ 1000
  | .t l => l.length ≤ 100 ∧ ∀ x ∈ l, x.length ≤ 1000
structure TOk (es : List Ent) : Prop where
  len : es.length ≤ 100
  txt : ∀ e ∈ es, ∀ p, (e.at p).length ≤ 1000
  nd : ∀ e ∈ es, (keys e.ca).Nodup
  cl : ∀ e ∈ es, e.ca.length ≤ 10
  row : ∀ e ∈ es, ∀ p ∈ e.ca, RLen p.2
  hom : ∀ k, (∀ r ∈ rowsOf es k, ∃ x, r = .s x) ∨ (∀ r ∈ rowsOf es k, ∃ l, r = .t l)

theorem toldAcc_snoc (es : List Ent) (ks : List Str) (k : Str) : toldAcc es (ks ++ [k]) = toldStep es (toldAcc es ks) k := by unfold toldAcc; rw [List.foldl_append]; rfl
theorem toldAcc_len (es : List Ent) (ks : List Str) : (toldAcc es ks).length ≤ ks.length := by
  unfold toldAcc
  have key : ∀ (ks : List Str) (acc : List (Str × Row)), (ks.foldl (toldStep es) acc).length ≤ acc.length + ks.length := by
    intro ks
    induction ks with
    | nil => intro acc; simp
    | cons k ks ih =>
      intro acc
      rw [List.foldl_cons, List.length_cons]
      have := ih (toldStep es acc k)
      have h2 : (toldStep es acc k).length ≤ acc.length + 1 := by
        unfold toldStep; split
        · omega
        · rw [List.length_append, List.length_singleton]; omega
      omega
  simpa using key ks []
theorem mem_rowsOf {es : List Ent} {k : Str} {r : Row} (h : r ∈ rowsOf es k) : ∃ e ∈ es, (k, r) ∈ e.ca := by
  unfold rowsOf at h
  obtain ⟨e, he, hr⟩ := List.mem_filterMap.mp h
  exact ⟨e, he, alook_some hr⟩
theorem rows_of_mem {es : List Ent} {e : Ent} (he : e ∈ es) {k : Str} (hk : k ∈ keys e.ca) (hn : (keys e.ca).Nodup) : rowsOf es k ≠ [] := by
  obtain ⟨⟨k', r⟩, hp, rfl⟩ := List.mem_map.mp hk
  exact List.ne_nil_of_mem (List.mem_filterMap.mpr ⟨e, he, alook_mem hn hp⟩)
theorem flat_len {es : List Ent} (h : TOk es) : (es.flatMap fun e => keys e.ca).length ≤ 1000 := by
  have key : ∀ l : List Ent, (∀ e ∈ l, e.ca.length ≤ 10) → (l.flatMap fun e => keys e.ca).length ≤ 10 * l.length := by
    intro l
    induction l with
    | nil => intro _; simp
    | cons e l ih =>
      intro hl
      rw [List.flatMap_cons, List.length_append, List.length_cons]
      have h1 := ih fun x hx => hl x (List.mem_cons_of_mem _ hx)
      have h2 := hl e List.mem_cons_self
      have h3 : (keys e.ca).length = e.ca.length := by unfold keys; rw [List.length_map]
      omega
  have := key es h.cl
  have := h.len
  omega
theorem sum_le {l : List Nat} {b : Nat} (h : ∀ x ∈ l, x ≤ b) : l.sum ≤ l.length * b := by
  induction l with
  | nil => simp
  | cons x l ih =>
    rw [List.sum_cons, List.length_cons, Nat.succ_mul]
    have := ih fun y hy => h y (List.mem_cons_of_mem _ hy)
    have := h x List.mem_cons_self
    omega
theorem rowsOf_len (es : List Ent) (k : Str) : (rowsOf es k).length ≤ es.length := List.length_filterMap_le _ _
theorem short_le : ∀ {ls : List (List Str)} {l : List Str}, l ∈ ls → short ls ≤ l.length := by
  intro ls l h
  cases ls with
  | nil => cases h
  | cons a r =>
    have key : ∀ (r : List (List Str)) (m : Nat), r.foldl (fun m l => min m l.length) m ≤ m ∧ ∀ x ∈ r, r.foldl (fun m l => min m l.length) m ≤ x.length := by
      intro r
      induction r with
      | nil => intro m; exact ⟨Nat.le_refl _, fun _ h => nomatch h⟩
      | cons b r ih =>
        intro m
        rw [List.foldl_cons]
        obtain ⟨h1, h2⟩ := ih (min m b.length)
        refine ⟨by omega, fun x hx => ?_⟩
        rcases List.mem_cons.mp hx with rfl | hx
        · omega
        · exact h2 x hx
    obtain ⟨h1, h2⟩ := key r a.length
    rcases List.mem_cons.mp h with rfl | h
    · exact h1
    · exact h2 l h
theorem short_mem {ls : List (List Str)} (h : ls ≠ []) : ∃ l ∈ ls, l.length = short ls := by
  cases ls with
  | nil => exact absurd rfl h
  | cons a r =>
    have key : ∀ (r : List (List Str)) (m : Nat), r.foldl (fun m l => min m l.length) m = m ∨ ∃ x ∈ r, x.length = r.foldl (fun m l => min m l.length) m := by
      intro r
      induction r with
      | nil => intro m; exact .inl rfl
      | cons b r ih =>
        intro m
        rw [List.foldl_cons]
        rcases ih (min m b.length) with h | ⟨x, hx, he⟩
        · rw [h]
          rcases Nat.le_total m b.length with q | q
          · exact .inl (by omega)
          · exact .inr ⟨b, List.mem_cons_self, by omega⟩
        · exact .inr ⟨x, List.mem_cons_of_mem _ hx, he⟩
    rcases key r a.length with h | ⟨x, hx, he⟩
    · exact ⟨a, List.mem_cons_self, h.symm⟩
    · exact ⟨x, List.mem_cons_of_mem _ hx, he⟩

section
variable {C : Cx}
theorem not_swapped {e : Expr} {x : Str} {px : Pos} {line : Nat} {S : Sig} (h : S.lookup x ≠ some .local) : ∀ env : Env, env.scope.names = S → swapsWith e (some (.Name x px)) line env = pure false := by
  intro env he
  unfold swapsWith
  have hk : env.kindOf x = S.lookup x := by unfold Env.kindOf; rw [he]
  have hb : (env.kindOf x == some NameKind.local) = false := by rw [hk]; simpa using h
  cases e <;> first | rfl | (dsimp only; rw [hb]; simp)


/-- the rows of one who, from all leaves -/
theorem cx_rows {n : Nat} {S : Sig} {ρ : Rho} {x : Str} {ifs : List Expr} {elt : Expr} {k : Str} : ∀ {es : List Ent}, (∀ e ∈ es, (keys e.ca).Nodup) →
    (∀ e : Ent, TstIf C n S ((x, .v e.d) :: ρ) ifs (dget (caD e.ca) k).isSome) → (∀ e : Ent, ∀ r, dget (caD e.ca) k = some r → Ev C n S ((x, .v e.d) :: ρ) elt r) →
    CX C n S [] (fun ρ d => Ev C n S ρ elt d) x ifs [] ρ (es.map Ent.d) ((rowsOf es k).map Row.d)
  | [], _, _, _ => .nil
  | e :: es, hn, ht, hv => by
    have ih := cx_rows (es := es) (fun e he => hn e (List.mem_cons_of_mem _ he)) ht hv
    have e1 : dget (caD e.ca) k = (alook e.ca k).map Row.d := dget_amap Row.d e.ca k
    cases hl : alook e.ca k with
    | none =>
      have hr : rowsOf (e :: es) k = rowsOf es k := by unfold rowsOf; rw [List.filterMap_cons, hl]
      rw [hr]
      have := ht e
      rw [e1, hl] at this
      exact .skip this ih
    | some r =>
      have hr : rowsOf (e :: es) k = r :: rowsOf es k := by unfold rowsOf; rw [List.filterMap_cons, hl]
      rw [hr]
      have := ht e
      rw [e1, hl] at this
      exact .take (o1 := [r.d]) this (.emit (hv e _ (by rw [e1, hl]; rfl))) ih

theorem told_turn (H : Glob C) {es : List Ent} (h : TOk es) {e : Ent} (he : e ∈ es) {k : Str} (hk : k ∈ keys e.ca) {acc : List (Str × Row)} (hacc : acc.length ≤ 1000) :
    Exs C 0 (fscope 8).names ((Str.ofString "who", .v (.str k)) :: [(Str.ofString "leaf", .v e.d), (Str.ofString "leaves", .v (.lst (es.map Ent.d))), (Str.ofString "callers", .own (caD acc))]) (forBody (forBody (fbody 8)[1]?)[0]?)
      (.nx [(Str.ofString "leaf", .v e.d), (Str.ofString "leaves", .v (.lst (es.map Ent.d))), (Str.ofString "callers", .own (caD (toldStep es acc k)))]) := by
  have K := H.K
  have hlen := h.len
  have el4 : ∀ {S : Sig} {ρ : Rho} {x : Str} {p1 p2 p3 : Pos} {e : Ent}, ρ.lookup x = some (.v e.d) → (x == ("__debug__" : Str)) = false → (x == ("__classdict__" : Str)) = false → Ev C 0 S ρ (.Subscript (.Name x p1) (.Constant (.int 4) 0 p2) p3) (.dct (caD e.ca)) :=
    fun h h1 h2 => ev_sub (ev_name h h1 h2) ev_int (fun _ _ => rfl) (item_tup (by decide) (by decide) rfl)
  by_cases hin : k ∈ keys acc
  · have e1 : toldStep es acc k = acc := by unfold toldStep; rw [if_pos hin]
    rw [e1]
    refine exs_last K (ex_if_f K (tst_notin' (ev_name (by rfl)) (EvD.own (by rfl)) rfl ?_) (exs_end (sub_cons (by rfl) (sub_cons (by rfl) (sub_cons (by rfl) sub_nil)))))
    obtain ⟨⟨k', r⟩, hp, rfl⟩ := List.mem_map.mp hin
    have : (dget (caD acc) k').isSome = true := by
      rw [dget_isSome, List.any_eq_true]
      exact ⟨(k', r.d), List.mem_map.mpr ⟨_, hp, rfl⟩, by simp⟩
    rw [this]; rfl
  · have e1 : toldStep es acc k = acc ++ [(k, joinRows (rowsOf es k))] := by unfold toldStep; rw [if_neg hin]
    have e2 : caD (toldStep es acc k) = dput (caD acc) k (joinRows (rowsOf es k)).d := by
      rw [e1]; unfold caD; rw [dput_amap, aput_new hin]
    have hcl : (caD acc).length ≤ 1000 := by unfold caD amap; rw [List.length_map]; exact hacc
    rw [e2]
    have hne := rows_of_mem he hk (h.nd e he)
    have hrl := rowsOf_len es k
    refine exs_last K (ex_if_t K (tst_notin' (ev_name (by rfl)) (EvD.own (by rfl)) rfl ?_) ?_)
    · have : dget (caD acc) k = none := by unfold caD; rw [dget_amap, alook_none hin]; rfl
      rw [this]; rfl
    refine exs_cons K (ex_assign K (d := .lst ((rowsOf es k).map Row.d)) (.inr (by rfl)) ?_ (not_swapped (by decide +kernel))) ?_
    · refine listcomp K (ρc := [(Str.ofString "who", .v (.str k))]) [] rfl (by decide +kernel) (capt_cons (by rfl) (by decide +kernel) capt_nil) (It.of K (ev_name (by rfl)) (iter_lst K)) (fun _ _ => rfl) (by decide +kernel) (by rfl) (by simp) ?_ (by rw [List.length_map]; omega)
      refine cx_rows h.nd (fun e => .one (tst_in' (ev_name (by rfl)) (EvD.of (el4 (by rfl) (by decide) (by decide))) rfl rfl)) (fun e r hr => ?_)
      exact ev_subD (EvD.of (el4 (by rfl) (by decide) (by decide))) (ev_name (by rfl)) hr fun _ _ => rfl
    rcases h.hom k with hs | ht
    · -- texts
      obtain ⟨xs, hxs⟩ : ∃ xs : List Str, rowsOf es k = xs.map .s := ⟨(rowsOf es k).map strOf, by
        rw [List.map_map]
        refine (List.map_id _).symm.trans (List.map_congr_left fun r hr => ?_)
        obtain ⟨x, rfl⟩ := hs r hr
        rfl⟩
      have hx1 : ∀ x ∈ xs, x.length ≤ 1000 := fun x hx => by
        obtain ⟨e', he', hp⟩ := mem_rowsOf (es := es) (k := k) (r := .s x) (by rw [hxs]; exact List.mem_map.mpr ⟨x, hx, rfl⟩)
        exact h.row e' he' _ hp
      have hj : joinRows (rowsOf es k) = .s (cat xs) := by
        rw [hxs]
        cases xs with
        | nil => rw [hxs] at hne; exact absurd rfl hne
        | cons x r =>
          show Row.s (cat ((Row.s x :: r.map Row.s).map strOf)) = _
          congr 1
          have : (Row.s x :: r.map Row.s).map strOf = x :: r := by
            rw [List.map_cons, List.map_map]
            congr 1
            exact List.map_id _
          rw [this]
      have hd : (rowsOf es k).map Row.d = xs.map .str := by rw [hxs, List.map_map]; rfl
      have hlx : xs.length ≤ es.length := by have := rowsOf_len es k; rwa [hxs, List.length_map] at this
      have h0 : ∃ x0, (xs.map D.str)[0]? = some (.str x0) := by
        cases xs with
        | nil => rw [hxs] at hne; exact absurd rfl hne
        | cons x r => exact ⟨x, rfl⟩
      obtain ⟨x0, h0⟩ := h0
      rw [hd, hj]
      refine exs_last K (ex_if_t K (tst_bool (ev_isinstance (T := "str") (d := .str x0) (nm K H.isi (by rfl)) (nm K H.str (by rfl)) (ev_sub (ev_name (by rfl)) ev_int (fun _ _ => rfl) (item_lst (by decide) (by decide) h0)) (fun _ => rfl) (.inl ⟨rfl, rfl⟩)) fun _ _ => rfl) ?_)
      refine exs_one K (ex_setitem K (by rfl) (by exact oo_v (oo_v (oo_v (oo_v (oo_own oo_nil))))) (ev_join K (ev_name (by rfl)) (fun _ => rfl) (by rfl) ?_) (ev_name (by rfl)) hcl (fun _ => rfl)) (sub_cons (by rfl) (sub_cons (by rfl) (sub_cons (by rfl) sub_nil)))
      have := sum_le (l := xs.map (·.length)) (b := 1000) (fun y hy => by obtain ⟨x, hx, rfl⟩ := List.mem_map.mp hy; exact hx1 x hx)
      rw [List.length_map] at this
      have e0 : (Str.ofString "").length = 0 := by decide
      rw [e0]; omega
    · -- tuples of texts
      obtain ⟨ls, hls⟩ : ∃ ls : List (List Str), rowsOf es k = ls.map .t := ⟨(rowsOf es k).map lstOf, by
        rw [List.map_map]
        refine (List.map_id _).symm.trans (List.map_congr_left fun r hr => ?_)
        obtain ⟨l, rfl⟩ := ht r hr
        rfl⟩
      have hl1 : ∀ l ∈ ls, l.length ≤ 100 ∧ ∀ x ∈ l, x.length ≤ 1000 := fun l hl => by
        obtain ⟨e', he', hp⟩ := mem_rowsOf (es := es) (k := k) (r := .t l) (by rw [hls]; exact List.mem_map.mpr ⟨l, hl, rfl⟩)
        exact h.row e' he' _ hp
      have hlne : ls ≠ [] := fun q => hne (by rw [hls, q]; rfl)
      have hj : joinRows (rowsOf es k) = .t (joinT ls) := by
        rw [hls]
        cases ls with
        | nil => exact absurd rfl hlne
        | cons l r =>
          show Row.t (joinT ((Row.t l :: r.map Row.t).map lstOf)) = _
          congr 2
          rw [List.map_cons, List.map_map]
          congr 1
          exact List.map_id _
      have hd : (rowsOf es k).map Row.d = ls.map (fun l => D.tup (l.map .str)) := by rw [hls, List.map_map]; rfl
      have hll : ls.length ≤ es.length := by have := rowsOf_len es k; rwa [hls, List.length_map] at this
      have h0 : ∃ l0 : List Str, (ls.map (fun l => D.tup (l.map .str)))[0]? = some (.tup (l0.map .str)) := by
        cases ls with
        | nil => exact absurd rfl hlne
        | cons l r => exact ⟨l, rfl⟩
      obtain ⟨l0, h0⟩ := h0
      obtain ⟨lm, hlm, hlme⟩ := short_mem hlne
      have hsh : short ls ≤ 100 := by have := (hl1 lm hlm).1; omega
      rw [hd, hj]
      refine exs_last K (ex_if_f K (tst_bool (ev_isinstance (T := "str") (d := .tup (l0.map .str)) (nm K H.isi (by rfl)) (nm K H.str (by rfl)) (ev_sub (ev_name (by rfl)) ev_int (fun _ _ => rfl) (item_lst (by decide) (by decide) h0)) (fun _ => rfl) (.inl ⟨rfl, rfl⟩)) fun _ _ => rfl) ?_)
      refine exs_cons K (ex_assign K (d := .int (short ls)) (.inl (by rfl)) (ev_call (nm K H.min (by rfl)) .blt (.cons (fun _ => rfl) (d := .lst ((ls.map fun l => (l.length : Int)).map .int)) ?_ .nil) (fn_min K ?_ ?_)) (fun _ _ => rfl)) ?_
      · rw [List.map_map]
        refine listcomp K (ρc := []) [] rfl (by decide +kernel) capt_nil (It.of K (ev_name (by rfl)) (iter_lst K)) (fun _ _ => rfl) (by decide +kernel) (by rfl) (by simp) ?_ (by rw [List.length_map]; omega)
        refine cx_maps (fun l : List Str => D.tup (l.map .str)) _ fun l hl => ?_
        have e3 : (D.int ∘ fun l : List Str => (l.length : Int)) l = .int ((l.map D.str).length : Nat) := by rw [List.length_map]; rfl
        rw [e3]
        exact ev_call (nm K H.len (by rfl)) .blt (.cons (fun _ => rfl) (ev_name (by rfl)) .nil) (fn_len_tup (by rw [List.length_map]; have := (hl1 l hl).1; omega))
      · exact List.mem_map.mpr ⟨lm, hlm, by rw [hlme]⟩
      · intro y hy
        obtain ⟨l, hl, rfl⟩ := List.mem_map.mp hy
        have := short_le hl
        omega
      · refine exs_one K (ex_setitem K (d := (Row.t (joinT ls)).d) (by rfl) (by exact oo_v (oo_v (oo_v (oo_v (oo_v (oo_own oo_nil)))))) ?_ (ev_name (by rfl)) hcl (fun _ => rfl)) (sub_cons (by rfl) (sub_cons (by rfl) (sub_cons (by rfl) sub_nil)))
        have e4 : (Row.t (joinT ls)).d = .tup ((List.range (short ls)).map fun p => D.str (cat (ls.reverse.map fun l => l.getD p Str.empty))) := by show D.tup ((joinT ls).map D.str) = _; unfold joinT; rw [List.map_map]; rfl
        rw [e4]
        refine ev_call (nm K H.tuple (by rfl)) .typ (.cons (fun _ => rfl) ?_ .nil) (fn_tuple_lst K (by rw [List.length_map, List.length_range]; omega))
        refine listcomp K (ρc := [(Str.ofString "rows", .v (.lst (ls.map (fun l => D.tup (l.map .str)))))]) [Str.ofString "place"] rfl (by decide +kernel) (capt_cons (by rfl) (by decide +kernel) capt_nil)
          (xs := nums (short ls)) (it_range K (nm K H.range (by rfl)) (ev_name (by rfl)) (by omega) (fun _ => rfl)) (fun _ _ => rfl) (by decide +kernel) (by rfl) (by simp) ?_ (by rw [List.length_map, List.length_range]; omega)
        refine cx_maps (fun (i : Nat) => D.int (i : Int)) _ fun p hp => ?_
        have hp' : p < short ls := List.mem_range.mp hp
        show Ev C 0 _ _ _ (.str (Txt.join (Str.ofString "") (ls.reverse.map fun l => l.getD p Str.empty)))
        refine ev_join K ?_ ?_ ?_ ?_
        rotate_left
        · exact fun _ => rfl
        · rfl
        rotate_left
        · rw [List.map_map]
          refine listcomp K (ρc := [(Str.ofString "place", .v (.int p))]) [] rfl (by decide +kernel) (capt_cons (by rfl) (by decide +kernel) capt_nil) (It.of K (ev_rev K (ev_name (by rfl)) (ev_neg ev_int) (by rw [List.length_map]; omega)) (iter_lst K)) (fun _ _ => rfl) (by decide +kernel) (by rfl) (by simp) ?_ (by rw [List.length_map, List.length_reverse]; omega)
          rw [← List.map_reverse]
          refine cx_maps (fun l : List Str => D.tup (l.map .str)) _ fun l hl => ?_
          have hlt : p < l.length := Nat.lt_of_lt_of_le hp' (short_le (List.mem_reverse.mp hl))
          refine ev_sub (ev_name (by rfl)) (ev_name (by rfl)) (fun _ _ => rfl) (item_tup (by omega) (by omega) ?_)
          rw [List.getElem?_map, Int.toNat_natCast, List.getElem?_eq_getElem hlt]
          show some (D.str l[p]) = some (D.str (l.getD p Str.empty))
          rw [List.getD_eq_getElem?_getD, List.getElem?_eq_getElem hlt]; rfl
        · have := sum_le (l := (ls.reverse.map fun l => l.getD p Str.empty).map (·.length)) (b := 1000) (fun y hy => by
            rw [List.map_map] at hy
            obtain ⟨l, hl, rfl⟩ := List.mem_map.mp hy
            have hlt : p < l.length := Nat.lt_of_lt_of_le hp' (short_le (List.mem_reverse.mp hl))
            show (l.getD p Str.empty).length ≤ 1000
            rw [List.getD_eq_getElem?_getD, List.getElem?_eq_getElem hlt]
            exact (hl1 l (List.mem_reverse.mp hl)).2 _ (List.getElem_mem _))
          rw [List.length_map, List.length_map, List.length_reverse] at this
          have e0 : (Str.ofString "").length = 0 := by decide
          rw [e0, List.length_map, List.length_reverse]; omega
end
end Mine

/-! part 28 -/
namespace Mine
set_option maxRecDepth 100000
section
variable {C : Cx}

theorem keysD_get' {l : List (Str × Row)} {i : Nat} {d : D} (h : (keysD (caD l))[i]? = some d) : ∃ k, (keys l)[i]? = some k ∧ d = .str k := by
  obtain ⟨k, r, h1, h2⟩ := keysD_get h
  exact ⟨k, by unfold keys; rw [List.getElem?_map, h1]; rfl, h2⟩

theorem told_body (H : Glob C) {es : List Ent} (h : TOk es) : Exs C 0 (fscope 8).names [(Str.ofString "leaves", .v (.lst (es.map Ent.d)))] (fbody 8) (.rt (toldE es).d) := by
  have K := H.K
  have hlen := h.len
  have hfl := flat_len h
  refine exs_cons K (ex_newdict K (.inl (by rfl))) ?_
  refine exs_cons K (ex_for K (xs := es.map Ent.d) (fun i => [(Str.ofString "leaves", .v (.lst (es.map Ent.d))), (Str.ofString "callers", .own (caD (toldAcc es ((es.take i).flatMap fun e => keys e.ca))))])
    (It.of K (ev_name (by rfl)) (iter_lst K)) (fun _ _ => rfl) (.inl (by rfl)) (sub_cons (by rfl) (sub_cons (by rfl) sub_nil)) fun i d hd => ?_) ?_
  · rw [List.getElem?_map] at hd
    obtain ⟨e, he, rfl⟩ := Option.map_eq_some_iff.mp hd
    have hem := List.mem_of_getElem? he
    have e0 : toldAcc es ((es.take (i + 1)).flatMap fun e => keys e.ca) = toldAcc es (((es.take i).flatMap fun e => keys e.ca) ++ (keys e.ca).take (keys e.ca).length) := by
      rw [take_snoc he, List.flatMap_append, List.take_length]; simp
    have hkl : (keysD (caD e.ca)).length = (keys e.ca).length := by unfold keysD caD amap keys; rw [List.length_map, List.length_map, List.length_map]
    have pre : ((es.take i).flatMap fun e => keys e.ca).length + (keys e.ca).length ≤ 1000 := by
      have : ((es.take i).flatMap fun e => keys e.ca).length + ((es.drop i).flatMap fun e => keys e.ca).length = (es.flatMap fun e => keys e.ca).length := by
        rw [← List.length_append, ← List.flatMap_append, List.take_append_drop]
      have hdrop : es.drop i = e :: es.drop (i + 1) := by
        have hlt := (List.getElem?_eq_some_iff.mp he).1
        rw [List.drop_eq_getElem_cons hlt]
        congr 1
        exact (List.getElem?_eq_some_iff.mp he).2
      rw [hdrop, List.flatMap_cons, List.length_append] at this
      omega
    refine exs_one K (ex_for K (xs := keysD (caD e.ca)) (fun j => [(Str.ofString "leaf", .v e.d), (Str.ofString "leaves", .v (.lst (es.map Ent.d))), (Str.ofString "callers", .own (caD (toldAcc es (((es.take i).flatMap fun e => keys e.ca) ++ (keys e.ca).take j))))])
      (It.of K (ev_sub (ev_name (by rfl)) ev_int (fun _ _ => rfl) (item_tup (by decide) (by decide) rfl)) (iter_dct K)) (fun _ _ => rfl) (.inr (by rfl)) (by rw [List.take_zero, List.append_nil]; exact sub_cons (by rfl) (sub_cons (by rfl) (sub_cons (by rfl) sub_nil))) fun j d hd => ?_) ?_
    · obtain ⟨k, hk, rfl⟩ := keysD_get' hd
      have e5 : toldAcc es (((es.take i).flatMap fun e => keys e.ca) ++ (keys e.ca).take (j + 1)) = toldStep es (toldAcc es (((es.take i).flatMap fun e => keys e.ca) ++ (keys e.ca).take j)) k := by
        rw [take_snoc hk, ← List.append_assoc, toldAcc_snoc]
      rw [e5]
      refine told_turn H h hem (List.mem_of_getElem? hk) ?_
      have := toldAcc_len es (((es.take i).flatMap fun e => keys e.ca) ++ (keys e.ca).take j)
      rw [List.length_append, List.length_take] at this
      omega
    · rw [hkl, e0]
      exact sub_cons (by rfl) (sub_cons (by rfl) sub_nil)
  · rw [List.length_map, List.take_length]
    refine exs_freeze (x := Str.ofString "callers") K (by rfl) (by exact oo_v (oo_own oo_nil)) (exs_ret ?_)
    refine ev_bin (d1 := .tup ((List.range 4).map fun p => D.str (cat (es.reverse.map (·.at p))))) (d2 := .tup [.dct (caD (toldCa es))]) ?_ (ev_tuple K (.cons (fun _ => rfl) (ev_name (by rfl)) .nil) (by simp)) (bin_add_tup K (by simp) (by simp) (by simp))
    refine ev_call (nm K H.tuple (by rfl)) .typ (.cons (fun _ => rfl) ?_ .nil) (fn_tuple_lst K (by simp))
    refine listcomp K (ρc := [(Str.ofString "leaves", .v (.lst (es.map Ent.d)))]) [Str.ofString "place"] rfl (by decide +kernel) (capt_cons (by rfl) (by decide +kernel) capt_nil)
      (xs := nums 4) (it_range K (nm K H.range (by rfl)) ev_int (by decide) (fun _ => rfl)) (fun _ _ => rfl) (by decide +kernel) (by rfl) (by simp) ?_ (by simp)
    refine cx_maps (fun (i : Nat) => D.int (i : Int)) _ fun p hp => ?_
    have hp' : p < 4 := List.mem_range.mp hp
    show Ev C 0 _ _ _ (.str (Txt.join (Str.ofString "") (es.reverse.map (·.at p))))
    refine ev_join K ?_ ?_ ?_ ?_
    rotate_left
    · exact fun _ => rfl
    · rfl
    rotate_left
    · rw [List.map_map]
      refine listcomp K (ρc := [(Str.ofString "place", .v (.int p))]) [] rfl (by decide +kernel) (capt_cons (by rfl) (by decide +kernel) capt_nil) (It.of K (ev_rev K (ev_name (by rfl)) (ev_neg ev_int) (by rw [List.length_map]; omega)) (iter_lst K)) (fun _ _ => rfl) (by decide +kernel) (by rfl) (by simp) ?_ (by rw [List.length_map, List.length_reverse]; omega)
      rw [← List.map_reverse]
      refine cx_maps Ent.d _ fun e he => ?_
      refine ev_sub (ev_name (by rfl)) (ev_name (by rfl)) (fun _ _ => rfl) (item_tup (by omega) (by omega) ?_)
      rw [Int.toNat_natCast]
      match p, hp' with
      | 0, _ => rfl
      | 1, _ => rfl
      | 2, _ => rfl
      | 3, _ => rfl
    · have := sum_le (l := (es.reverse.map (·.at p)).map (·.length)) (b := 1000) (fun y hy => by
        rw [List.map_map] at hy
        obtain ⟨e, he, rfl⟩ := List.mem_map.mp hy
        exact h.txt e (List.mem_reverse.mp he) p)
      rw [List.length_map, List.length_map, List.length_reverse] at this
      have e0 : (Str.ofString "").length = 0 := by decide
      rw [e0, List.length_map, List.length_reverse]; omega

theorem has_told (H : Glob C) : Has C (Str.ofString "_law_told") 1 (fun ds d => ∃ es, TOk es ∧ ds = [.lst (es.map Ent.d)] ∧ d = (toldE es).d) := by
  obtain ⟨a, ha, hf⟩ := H.fn 8 (by simp)
  refine ⟨.ref a, ha, hf.callable, ?_⟩
  rintro ds d ⟨es, h, rfl, rfl⟩
  exact fn_user1 (x1 := Str.ofString "leaves") H.K hf (fun _ _ _ _ => rfl) (nofree (by decide +kernel)) (.inr (by rfl)) rfl rfl rfl (told_body H h)
end
end Mine

/-! part 29 -/
namespace Mine
set_option maxRecDepth 100000

def seg (es : List Ent) (i j : Nat) : List Ent := (es.drop i).take (j - i)
def letters : Str := Str.ofString "abcdefghij"
def letter (k : Nat) : Str := Txt.item letters (k : Int)
/-- two dicts of rows and the one of both -/
structure Mg (f : Row → D) (L R T : List (Str × Row)) : Prop where
  nd : (keys (amap f L)).Nodup
  len : (amap f L).length + (amap f R).length ≤ 1000
  ok : ∀ (i : Nat) (k : Str) (d d0 : D), (amap f R)[i]? = some (k, d) → dget (mergeD (amap f L) ((amap f R).take i)) k = some d0 → CombOk d0 d
  eq : mergeD (amap f L) (amap f R) = amap f T

structure LF (s : List Int) (es : List Ent) (W : List (Str × D)) (w : Nat → Int) : Prop where
  es_eq : es = (List.range s.length).map fun k => leafE (s.getD k 0) (letter k)
  W_eq : W = puts ((List.range s.length).map fun k => (letter k, D.int (s.getD k 0)))
  lo : 2 ≤ s.length
  hi : s.length ≤ 10
  tok : ∀ i j, TOk (seg es i j)
  cov : ∀ i j, i < j → j ≤ s.length → ECov W w (toldE (seg es i j))
  one : ∀ k e, es[k]? = some e → toldE (seg es k (k + 1)) = e
  mt : ∀ i l j, i < l → l < j → j ≤ s.length → Mg Row.d (toldE (seg es i l)).ca (toldE (seg es l j)).ca (toldE (seg es i j)).ca
  mw : ∀ i l j, i < l → l < j → j ≤ s.length → Mg (Row.w w) (toldE (seg es i l)).ca (toldE (seg es l j)).ca (toldE (seg es i j)).ca
  txt : ∀ i l j, i < l → l < j → j ≤ s.length → ∀ p, (toldE (seg es i j)).at p = (toldE (seg es l j)).at p ++ (toldE (seg es i l)).at p ∧ ((toldE (seg es l j)).at p).length + ((toldE (seg es i l)).at p).length ≤ 1000000

def rowD (es : List Ent) (w : Nat → Int) (b : Nat × Nat) : D := .tup [.int b.1, .int b.2, (toldE (seg es b.1 b.2)).d, (toldE (seg es b.1 b.2)).w w]
def mergeAt (bs : List (Nat × Nat)) (p : Nat) : List (Nat × Nat) := bs.take p ++ [((bs.getD p (0, 0)).1, (bs.getD (p + 1) (0, 0)).2)] ++ bs.drop (p + 2)
def placeOf (s : List Int) (k : Nat) (bs : List (Nat × Nat)) : Nat := (((s.getD k 0).fdiv 2 + k).fmod ((bs.length : Int) - 1)).toNat
def bsAt (s : List Int) : Nat → List (Nat × Nat)
  | 0 => (List.range s.length).map fun k => (k, k + 1)
  | k + 1 => mergeAt (bsAt s k) (placeOf s k (bsAt s k))

/-- stretches that follow each other, from a to b -/
inductive Chain : Nat → Nat → List (Nat × Nat) → Prop
  | one (a b : Nat) : a < b → Chain a b [(a, b)]
  | cons (a b c : Nat) (r : List (Nat × Nat)) : a < b → Chain b c r → Chain a c ((a, b) :: r)
theorem Chain.le {a b : Nat} {l : List (Nat × Nat)} (h : Chain a b l) : a < b := by
  induction h with
  | one a b h => exact h
  | cons a b c r h _ ih => omega
theorem Chain.pair {a b : Nat} {l : List (Nat × Nat)} (h : Chain a b l) : ∀ {p : Nat}, p + 1 < l.length → ∃ i x j, l[p]? = some (i, x) ∧ l[p + 1]? = some (x, j) ∧ i < x ∧ x < j ∧ a ≤ i ∧ j ≤ b := by
  induction h with
  | one a b h => intro p hp; simp at hp
  | cons a b c r h hr ih =>
    intro p hp
    cases p with
    | zero =>
      cases hr with
      | one _ _ h2 => exact ⟨a, b, c, rfl, rfl, h, h2, Nat.le_refl _, Nat.le_refl _⟩
      | cons _ b2 _ r2 h2 h3 => exact ⟨a, b, b2, rfl, rfl, h, h2, Nat.le_refl _, Nat.le_of_lt h3.le⟩
    | succ p =>
      obtain ⟨i, x, j, e1, e2, h1, h2, h3, h4⟩ := ih (p := p) (by simpa using hp)
      exact ⟨i, x, j, by simpa using e1, by simpa using e2, h1, h2, by omega, h4⟩
theorem Chain.merge {a b : Nat} {l : List (Nat × Nat)} (h : Chain a b l) : ∀ {p : Nat}, p + 1 < l.length → Chain a b (mergeAt l p) ∧ (mergeAt l p).length + 1 = l.length := by
  induction h with
  | one a b h => intro p hp; simp at hp
  | cons a b c r h hr ih =>
    intro p hp
    cases p with
    | zero =>
      cases hr with
      | one _ _ h2 => exact ⟨.one a c (by omega), by simp [mergeAt]⟩
      | cons _ b2 _ r2 h2 h3 => exact ⟨.cons a b2 c r2 (by omega) h3, by simp [mergeAt]⟩
    | succ p =>
      obtain ⟨h1, h2⟩ := ih (p := p) (by simpa using hp)
      have e : mergeAt ((a, b) :: r) (p + 1) = (a, b) :: mergeAt r p := by unfold mergeAt; simp
      rw [e]
      exact ⟨.cons a b c _ h h1, by simpa using h2⟩
theorem chain_start : ∀ (m a : Nat), 0 < m → Chain a (a + m) ((List.range m).map fun k => (a + k, a + k + 1))
  | 0, a, h => by omega
  | 1, a, _ => .one a (a + 1) (by omega)
  | m + 2, a, _ => by
    have ih := chain_start (m + 1) (a + 1) (by omega)
    rw [List.range_succ_eq_map, List.map_cons, List.map_map]
    have e1 : (List.map ((fun k => (a + k, a + k + 1)) ∘ Nat.succ) (List.range (m + 1))) = (List.range (m + 1)).map fun k => (a + 1 + k, a + 1 + k + 1) := by
      refine List.map_congr_left fun k _ => ?_
      show (a + (k + 1), a + (k + 1) + 1) = _
      rw [show a + (k + 1) = a + 1 + k by omega]
    rw [e1, show a + (m + 2) = a + 1 + (m + 1) by omega]
    exact .cons a (a + 1) _ _ (by omega) ih

theorem place_lt (s : List Int) (k : Nat) {bs : List (Nat × Nat)} (h : 2 ≤ bs.length) : 0 ≤ ((s.getD k 0).fdiv 2 + k).fmod ((bs.length : Int) - 1) ∧ placeOf s k bs + 1 < bs.length := by
  have h1 := fmod_lo ((s.getD k 0).fdiv 2 + k) (b := (bs.length : Int) - 1) (by omega)
  have h2 := fmod_hi ((s.getD k 0).fdiv 2 + k) (b := (bs.length : Int) - 1) (by omega)
  refine ⟨h1, ?_⟩
  unfold placeOf; omega
theorem bs_chain (s : List Int) (hs : 2 ≤ s.length) : ∀ k, k < s.length → Chain 0 s.length (bsAt s k) ∧ (bsAt s k).length + k = s.length
  | 0, _ => by
    have := chain_start s.length 0 (by omega)
    simp only [Nat.zero_add] at this
    exact ⟨this, by unfold bsAt; rw [List.length_map, List.length_range]; rfl⟩
  | k + 1, hk => by
    obtain ⟨h1, h2⟩ := bs_chain s hs k (by omega)
    have hp := (place_lt s k (bs := bsAt s k) (by omega)).2
    obtain ⟨h3, h4⟩ := h1.merge hp
    exact ⟨h3, by unfold bsAt; omega⟩

theorem flat_str {n : Nat} (x : Str) : flatD n (.str x) = true := by cases n <;> rfl
theorem flat_row (r : Row) : flatD 1 r.d = true := by
  cases r with
  | s x => rfl
  | t l => show (l.map D.str).all (flatD 0) = true; rw [List.all_map]; exact List.all_eq_true.mpr fun _ _ => rfl
theorem flat_roww (w : Nat → Int) (r : Row) : flatD 1 (r.w w) = true := by
  cases r with
  | s x => rfl
  | t l => show (l.map fun x => D.int (wt w x)).all (flatD 0) = true; rw [List.all_map]; exact List.all_eq_true.mpr fun _ _ => rfl
theorem deep_ent (e : Ent) : deepD 3 e.d = true := by
  show ([D.str e.a1, .str e.a2, .str e.a3, .str e.a4, .dct (caD e.ca)]).all (deepD 2) = true
  have : deepD 2 (.dct (caD e.ca)) = true := by
    show (caD e.ca).all (fun p => flatD 1 p.2) = true
    unfold caD amap; rw [List.all_map]; exact List.all_eq_true.mpr fun p _ => flat_row p.2
  simp only [List.all_cons, List.all_nil, this]; rfl
theorem deep_entw (w : Nat → Int) (e : Ent) : deepD 3 (e.w w) = true := by
  show ([D.int (wt w e.a1), .int (wt w e.a2), .int (wt w e.a3), .int (wt w e.a4), .dct (caW w e.ca)]).all (deepD 2) = true
  have : deepD 2 (.dct (caW w e.ca)) = true := by
    show (caW w e.ca).all (fun p => flatD 1 p.2) = true
    unfold caW amap; rw [List.all_map]; exact List.all_eq_true.mpr fun p _ => flat_roww w p.2
  simp only [List.all_cons, List.all_nil, this]; rfl

section
variable {C : Cx}
theorem stats_t {s : List Int} {es : List Ent} {W : List (Str × D)} {w : Nat → Int} (F : LF s es W w) {f : Value} (hf : ∀ ds d, (∃ t1 t2 t3 t4 s1 s2 s3 s4 t s, AddOk s1 t1 ∧ AddOk s2 t2 ∧ AddOk s3 t3 ∧ AddOk s4 t4 ∧ (keys t).Nodup ∧ t.length + s.length ≤ 1000 ∧
    (∀ (i : Nat) (k : Str) (d d0 : D), s[i]? = some (k, d) → dget (mergeD t (s.take i)) k = some d0 → CombOk d0 d) ∧ ds = [.tup [t1, t2, t3, t4, .dct t], .tup [s1, s2, s3, s4, .dct s]] ∧ d = .tup [addD s1 t1, addD s2 t2, addD s3 t3, addD s4 t4, .dct (mergeD t s)]) → FnOk C 2 f ds d)
    {i x j : Nat} (h1 : i < x) (h2 : x < j) (h3 : j ≤ s.length) : FnOk C 2 f [(toldE (seg es i x)).d, (toldE (seg es x j)).d] (toldE (seg es i j)).d ∧ FnOk C 2 f [(toldE (seg es i x)).w w, (toldE (seg es x j)).w w] ((toldE (seg es i j)).w w) := by
  have m := F.mt i x j h1 h2 h3
  have mw := F.mw i x j h1 h2 h3
  have t := F.txt i x j h1 h2 h3
  refine ⟨hf _ _ ⟨_, _, _, _, _, _, _, _, _, _, .str _ _ (t 0).2, .str _ _ (t 1).2, .str _ _ (t 2).2, .str _ _ (t 3).2, m.nd, m.len, m.ok, rfl, ?_⟩, hf _ _ ⟨_, _, _, _, _, _, _, _, _, _, .int _ _, .int _ _, .int _ _, .int _ _, mw.nd, mw.len, mw.ok, rfl, ?_⟩⟩
  · rw [m.eq]
    show D.tup [.str ((toldE (seg es i j)).at 0), .str ((toldE (seg es i j)).at 1), .str ((toldE (seg es i j)).at 2), .str ((toldE (seg es i j)).at 3), _] = _
    rw [(t 0).1, (t 1).1, (t 2).1, (t 3).1]; rfl
  · rw [mw.eq]
    show D.tup [.int (wt w ((toldE (seg es i j)).at 0)), .int (wt w ((toldE (seg es i j)).at 1)), .int (wt w ((toldE (seg es i j)).at 2)), .int (wt w ((toldE (seg es i j)).at 3)), _] = _
    rw [(t 0).1, (t 1).1, (t 2).1, (t 3).1, wt_app, wt_app, wt_app, wt_app]; rfl

def turnR (s : List Int) (es : List Ent) (W : List (Str × D)) (w : Nat → Int) (k : Nat) : Rho :=
  [(Str.ofString "s", .v (.lst (s.map .int))), (Str.ofString "letters", .v (.str letters)), (Str.ofString "worth", .v (.dct W)), (Str.ofString "leaves", .v (.lst (es.map Ent.d))), (Str.ofString "row", .v (.lst ((bsAt s k).map (rowD es w)))), (Str.ofString "ok", .v (.bool true))]

theorem law_turn (H : Glob C) {s : List Int} {es : List Ent} {W : List (Str × D)} {w : Nat → Int} (F : LF s es W w) {k : Nat} (hk : k + 1 < s.length) :
    Exs C 2 (fscope 9).names ((Str.ofString "k", .v (.int k)) :: turnR s es W w k) (forBody (fbody 9)[6]?) (.nx (turnR s es W w (k + 1))) := by
  have K := H.K
  have hi := F.hi
  obtain ⟨hch, hbl⟩ := bs_chain s F.lo k (by omega)
  obtain ⟨hp0, hp1⟩ := place_lt s k (bs := bsAt s k) (by omega)
  obtain ⟨i, x, j, e1, e2, h1, h2, h3, h4⟩ := hch.pair hp1
  have hel : es.length = s.length := by rw [F.es_eq, List.length_map, List.length_range]
  have hpN : (((s.getD k 0).fdiv 2 + k).fmod ((bsAt s k).length - 1) : Int) = ((placeOf s k (bsAt s k) : Nat) : Int) := by unfold placeOf; omega
  have hrl : ((bsAt s k).map (rowD es w)).length = (bsAt s k).length := List.length_map ..
  generalize hp : placeOf s k (bsAt s k) = p at *
  obtain ⟨fs, hfs, hcs, hos⟩ := has_stats H
  obtain ⟨ft, hft, hct, hot⟩ := has_told H
  obtain ⟨fw, hfw, hcw, how⟩ := has_weighed H
  -- place
  refine exs_cons K (ex_assign K (d := .int (p : Nat)) (.inl (by rfl)) ?_ (fun _ _ => rfl)) ?_
  · rw [← hpN]
    refine ev_bin (ev_bin (ev_bin (ev_sub (ev_name (by rfl)) (ev_name (by rfl)) (fun _ _ => rfl) (item_lst (d := .int (s.getD k 0)) (by omega) (by omega) ?_)) ev_int (bin_div_int (by decide) (by decide))) (ev_name (by rfl)) bin_add_int)
      (ev_bin (ev_call (nm K H.len (by rfl)) .blt (.cons (fun _ => rfl) (ev_name (by rfl)) .nil) (fn_len_lst (by rw [hrl]; omega))) ev_int bin_sub_int) ?_
    · rw [List.getElem?_map, Int.toNat_natCast, List.getD_eq_getElem?_getD, List.getElem?_eq_getElem (by omega)]; rfl
    · rw [hrl]
      exact bin_mod_int (by omega)
  refine exs_cons K (ex_assign K (d := rowD es w (i, x)) (.inl (by rfl)) (ev_sub (ev_name (by rfl)) (ev_name (by rfl)) (fun _ _ => rfl) (item_lst (by omega) (by omega) (by rw [List.getElem?_map, Int.toNat_natCast, e1]; rfl))) (fun _ _ => rfl)) ?_
  refine exs_cons K (ex_assign K (d := rowD es w (x, j)) (.inl (by rfl)) (ev_sub (ev_name (by rfl)) (ev_bin (ev_name (by rfl)) ev_int bin_add_int) (fun _ _ => rfl) (item_lst (by omega) (by omega) (by rw [List.getElem?_map, show ((p : Int) + 1).toNat = p + 1 by omega, e2]; rfl))) (fun _ _ => rfl)) ?_
  obtain ⟨q1, q2⟩ := stats_t (C := C) F hos h1 h2 (by omega : j ≤ s.length)
  refine exs_cons K (ex_assign K (d := (toldE (seg es i j)).d) (.inl (by rfl)) (ev_call (nameV_global K (by rfl) hfs) hcs (.cons (fun _ => rfl) (ev_sub (ev_name (by rfl)) ev_int (fun _ _ => rfl) (item_tup (by decide) (by decide) (by rfl))) (.cons (fun _ => rfl) (ev_sub (ev_name (by rfl)) ev_int (fun _ _ => rfl) (item_tup (by decide) (by decide) (by rfl))) .nil)) q1) (fun _ _ => rfl)) ?_
  refine exs_cons K (ex_assign K (d := (toldE (seg es i j)).w w) (.inr (by rfl)) (ev_call (nameV_global K (by rfl) hfs) hcs (.cons (fun _ => rfl) (ev_sub (ev_name (by rfl)) ev_int (fun _ _ => rfl) (item_tup (by decide) (by decide) (by rfl))) (.cons (fun _ => rfl) (ev_sub (ev_name (by rfl)) ev_int (fun _ _ => rfl) (item_tup (by decide) (by decide) (by rfl))) .nil)) q2) (fun _ _ => rfl)) ?_
  refine exs_cons K (ex_assign K (d := (toldE (seg es i j)).d) (.inl (by rfl)) (ev_call (nameV_global K (by rfl) hft) hct (.cons (fun _ => rfl) (d := .lst ((seg es i j).map Ent.d)) ?_ .nil) ((hot _ _ ⟨_, F.tok i j, rfl, rfl⟩).up (by decide))) (fun _ _ => rfl)) ?_
  · have hsg : (seg es i j).map Ent.d = ((es.map Ent.d).drop i).take (j - i) := by unfold seg; rw [List.map_take, List.map_drop]
    rw [hsg]
    exact ev_between K (ev_name (by rfl)) (ev_sub (ev_name (by rfl)) ev_int (fun _ _ => rfl) (item_tup (by decide) (by decide) (by rfl))) (ev_sub (ev_name (by rfl)) ev_int (fun _ _ => rfl) (item_tup (by decide) (by decide) (by rfl))) (by omega) (by rw [List.length_map]; omega) (by rw [List.length_map]; omega)
  have hca : (caD (toldE (seg es i j)).ca).length ≤ 1000 := by unfold caD amap; rw [List.length_map]; exact (F.cov i j (by omega) (by omega)).len
  have hkd : deepD 1 (.lst (keysD (caD (toldE (seg es i j)).ca))) = true := by
    show (keysD _).all (deepD 0) = true
    unfold keysD; rw [List.all_map]; exact List.all_eq_true.mpr fun _ _ => rfl
  have hca4 : ∀ {y : Str} {ρ : Rho} {p1 p2 p3 : Pos}, ρ.lookup y = some (.v (toldE (seg es i j)).d) → (y == ("__debug__" : Str)) = false → (y == ("__classdict__" : Str)) = false → Ev C 2 (fscope 9).names ρ (.Subscript (.Name y p1) (.Constant (.int 4) 0 p2) p3) (.dct (caD (toldE (seg es i j)).ca)) :=
    fun h h1 h2 => ev_sub (ev_name h h1 h2) ev_int (fun _ _ => rfl) (item_tup (by decide) (by decide) rfl)
  refine exs_cons K (ex_assign K (d := .bool true) (.inl (by rfl)) (ev_and (.cons (ev_name (by rfl)) (.cons (ev_eq (deep_ent (toldE (seg es i j))) (by decide) rfl (ev_name (by rfl)) (ev_name (by rfl)) rfl) (.one (ev_eq hkd (by decide) rfl
    (ev_call (nm K H.list (by rfl)) .typ (.cons (fun _ => rfl) (hca4 (by rfl) (by decide) (by decide)) .nil) (fn_list_dct K hca)) (ev_call (nm K H.list (by rfl)) .typ (.cons (fun _ => rfl) (hca4 (by rfl) (by decide) (by decide)) .nil) (fn_list_dct K hca)) rfl))))) (fun _ _ => rfl)) ?_
  refine exs_cons K (ex_assign K (d := .bool true) (.inl (by rfl)) (ev_and (.cons (ev_name (by rfl)) (.one (ev_eq (deep_entw w (toldE (seg es i j))) (by decide) rfl (ev_name (by rfl))
    (ev_call (nameV_global K (by rfl) hfw) hcw (.cons (fun _ => rfl) (ev_name (by rfl)) (.cons (fun _ => rfl) (ev_name (by rfl)) .nil)) (how _ _ ⟨_, W, w, F.cov i j (by omega) (by omega), rfl, rfl⟩)) rfl)))) (fun _ _ => rfl)) ?_
  have hbs : (bsAt s (k + 1)).map (rowD es w) = (((bsAt s k).map (rowD es w)).take p ++ [rowD es w (i, j)]) ++ ((bsAt s k).map (rowD es w)).drop (p + 2) := by
    show (mergeAt (bsAt s k) (placeOf s k (bsAt s k))).map (rowD es w) = _
    rw [hp]
    unfold mergeAt
    rw [List.getD_eq_getElem?_getD, List.getD_eq_getElem?_getD, e1, e2, List.map_append, List.map_append, List.map_take, List.map_drop]; rfl
  unfold turnR
  rw [hbs]
  refine exs_one K (ex_assign K (.inl (by rfl)) (ev_bin (ev_bin (ev_upto K (ev_name (by rfl)) (ev_name (by rfl)) (by rw [hrl]; omega)) (ev_list K (.cons (fun _ => rfl) (ev_tuple K (ds := [.int i, .int j, (toldE (seg es i j)).d, (toldE (seg es i j)).w w]) (.cons (fun _ => rfl) (ev_sub (ev_name (by rfl)) ev_int (fun _ _ => rfl) (item_tup (by decide) (by decide) (by rfl)))
    (.cons (fun _ => rfl) (ev_sub (ev_name (by rfl)) ev_int (fun _ _ => rfl) (item_tup (by decide) (by decide) (by rfl))) (.cons (fun _ => rfl) (ev_name (by rfl)) (.cons (fun _ => rfl) (ev_name (by rfl)) .nil)))) (by simp)) .nil) (by simp)) (bin_add_lst K ?_)) (ev_from K (k := p + 2) (ev_name (by rfl)) (ev_bin (ev_name (by rfl)) ev_int bin_add_int) (by rw [hrl]; omega)) (bin_add_lst K ?_)) (fun _ _ => rfl))
    (sub_cons (by rfl) (sub_cons (by rfl) (sub_cons (by rfl) (sub_cons (by rfl) (sub_cons (by rfl) (sub_cons (by rfl) sub_nil))))))
  · rw [List.length_take, hrl]; simp; omega
  · rw [List.length_append, List.length_take, List.length_drop, hrl]; simp; omega
end
end Mine

/-! part 30 -/
namespace Mine
set_option maxRecDepth 100000

def whos2 : List Str := [Str.ofString "<g>", Str.ofString ""]
def wOf (w : Nat → Int) : Row → Option Int
  | .s x => some (wt w x)
  | .t _ => none
def callsL (w : Nat → Int) (ca : List (Str × Row)) : List (Str × Int) := whos2.filterMap fun who => ((alook ca who).bind (wOf w)).map fun i => (who, i)
def weightL (w : Nat → Int) (es : List Ent) : List Int := es.flatMap fun e => whos2.filterMap fun who => (alook e.ca who).bind (wOf w)

structure LG (s : List Int) (es : List Ent) (W : List (Str × D)) (w : Nat → Int) : Prop extends LF s es W w where
  kE : ∀ e ∈ es, ∀ who ∈ whos2, ∀ r, alook e.ca who = some r → ∃ x, r = .s x ∧ Cov W w x
  kT : ∀ who ∈ whos2, ∀ r, alook (toldE es).ca who = some r → ∃ x, r = .s x
  sums : ((callsL w (toldE es).ca).map (·.2)).sum = (weightL w es).sum

theorem puts_nodup : ∀ {out : List (Str × D)}, (keys out).Nodup → puts out = out := by
  have key : ∀ (out acc : List (Str × D)), (keys (acc ++ out)).Nodup → out.foldl (fun l p => dput l p.1 p.2) acc = acc ++ out := by
    intro out
    induction out with
    | nil => intro acc _; simp
    | cons p out ih =>
      intro acc h
      rw [List.foldl_cons, dput_eq, aput_new]
      · rw [ih _ (by rw [List.append_assoc]; exact h), List.append_assoc]; rfl
      · unfold keys at h
        rw [List.map_append, List.map_cons, List.nodup_append] at h
        intro hm
        exact h.2.2 _ hm _ List.mem_cons_self rfl
  intro out h
  exact key out [] (by simpa using h)

theorem mergeD_nil (l : List (Str × D)) (h : (keys l).Nodup) : mergeD [] l = l ∧ ∀ (i : Nat) (k : Str) (d d0 : D), l[i]? = some (k, d) → dget (mergeD [] (l.take i)) k = some d0 → CombOk d0 d := by
  have key : ∀ (out acc : List (Str × D)), (keys (acc ++ out)).Nodup → out.foldl stepD acc = acc ++ out := by
    intro out
    induction out with
    | nil => intro acc _; simp
    | cons p out ih =>
      intro acc h
      have hn : p.1 ∉ keys acc := by
        unfold keys at h
        rw [List.map_append, List.map_cons, List.nodup_append] at h
        intro hm
        exact h.2.2 _ hm _ List.mem_cons_self rfl
      have e : stepD acc p = acc ++ [p] := by unfold stepD; rw [dget_eq, alook_none hn, ]; exact (dput_eq _ _ _).trans (aput_new hn)
      rw [List.foldl_cons, e, ih _ (by rw [List.append_assoc]; exact h), List.append_assoc]; rfl
  refine ⟨by unfold mergeD; rw [key l [] (by simpa using h)]; rfl, fun i k d d0 hd hg => ?_⟩
  have hk := key_new h hd
  have hn : (keys (l.take i)).Nodup := by unfold keys at *; rw [List.map_take]; exact h.sublist (List.take_sublist _ _)
  unfold mergeD at hg
  rw [key (l.take i) [] (by simpa using hn), List.nil_append, dget_eq, alook_none hk] at hg
  cases hg

section
variable {C : Cx} {n : Nat} {S : Sig} {ρ ρc : Rho} {pos : Pos}

theorem ev_dict_nil (K : Cok C) : Ev C n S ρ (.Dict [] [] pos) (.dct []) := by
  intro env A mu G s hA B X
  refine wpAny_Dict_empty ?_
  obtain ⟨o, ho, hd⟩ := Heap.dictOf_iff.mp (Heap.DictOf.new (knd := strKind C.prog C.w) s.heap)
  have e := Heap.get?_push_size s.heap (o := { cls := .type "dict", data := .dict #[] }) rfl
  rw [e] at ho; cases ho
  exact post_push (tk := s.toks) K B rfl fun G' hs hg => .dct hg (not_sys K B) hd .nil

theorem dictcomp (K : Cok C) {kx vx : Expr} {scope : Scope} {x : Str} {px : Pos} {iter : Expr} {ifs : List Expr} {gs : List Comprehension} {xs : List D} {out : List (Str × D)} (own : List Str)
    (hk : scope.kind = .function) (hchk : scopeChk scope.names S own = true) (hρ : ∀ p ∈ ρc, Capt ρ scope.names S (relS scope.names S) p)
    (hit : It C n S ρ iter xs) (hf : ∀ env v, foldedSetIterable iter env v = pure v) (hS : ownB (relS scope.names S) own x = true) (hx : ρc.lookup x = none) (hif : ifs.length ≤ 1)
    (hcx : CX C n (relS scope.names S) own (fun ρ p => Ev C n (relS scope.names S) ρ kx (.str p.1) ∧ Ev C n (relS scope.names S) ρ vx p.2) x ifs gs ρc xs out) (hlen : out.length ≤ 1000) : Ev C n S ρ (.DictComp kx vx (⟨.Name x px, iter, ifs, 0⟩ :: gs) scope pos) (.dct (puts out)) :=
  ev_dictcomp K hk (scopeChk_ok hchk).2 (scopeChk_ok hchk).1 hρ hit hf (ownB_ok hS) hx hif hcx hlen

theorem listcomp_asg (K : Cok C) {y : Str} {py cpos : Pos} {elt : Expr} {scope : Scope} {x : Str} {px : Pos} {iter : Expr} {ifs : List Expr} {gs : List Comprehension} {xs : List D} {out : List D} (own : List Str)
    (hk : scope.kind = .function) (hchk : scopeChk scope.names S own = true) (hρ : ∀ p ∈ ρc, Capt ρ scope.names S (relS scope.names S) p)
    (hit : It C n S ρ iter xs) (hf : ∀ env v, foldedSetIterable iter env v = pure v) (hS : ownB (relS scope.names S) own x = true) (hx : ρc.lookup x = none) (hif : ifs.length ≤ 1)
    (hcx : CX C n (relS scope.names S) own (fun ρ d => Ev C n (relS scope.names S) ρ elt d) x ifs gs ρc xs out) (hlen : out.length ≤ 1000) (hy : S.lookup y = some .local)
    (hsw : ∀ env, env.scope.kind = .function → env.scope.names = S → swapsWith (.ListComp elt (⟨.Name x px, iter, ifs, 0⟩ :: gs) scope cpos) (some (.Name y py)) pos.line env = pure true) :
    Ex C n S ρ (.Assign [.Name y py] (.ListComp elt (⟨.Name x px, iter, ifs, 0⟩ :: gs) scope cpos) pos) (.nx ((y, .v (.lst out)) :: ρ)) :=
  ex_assign_comp K (make_list K) hk (scopeChk_ok hchk).2 (scopeChk_ok hchk).1 hρ hit (ownB_ok hS) hx hif hcx hlen rfl hf hy hsw fun _ _ => rfl
theorem dictcomp_asg (K : Cok C) {y : Str} {py cpos : Pos} {kx vx : Expr} {scope : Scope} {x : Str} {px : Pos} {iter : Expr} {ifs : List Expr} {gs : List Comprehension} {xs : List D} {out : List (Str × D)} (own : List Str)
    (hk : scope.kind = .function) (hchk : scopeChk scope.names S own = true) (hρ : ∀ p ∈ ρc, Capt ρ scope.names S (relS scope.names S) p)
    (hit : It C n S ρ iter xs) (hf : ∀ env v, foldedSetIterable iter env v = pure v) (hS : ownB (relS scope.names S) own x = true) (hx : ρc.lookup x = none) (hif : ifs.length ≤ 1)
    (hcx : CX C n (relS scope.names S) own (fun ρ p => Ev C n (relS scope.names S) ρ kx (.str p.1) ∧ Ev C n (relS scope.names S) ρ vx p.2) x ifs gs ρc xs out) (hlen : out.length ≤ 1000) (hy : S.lookup y = some .local)
    (hsw : ∀ env, env.scope.kind = .function → env.scope.names = S → swapsWith (.DictComp kx vx (⟨.Name x px, iter, ifs, 0⟩ :: gs) scope cpos) (some (.Name y py)) pos.line env = pure true) :
    Ex C n S ρ (.Assign [.Name y py] (.DictComp kx vx (⟨.Name x px, iter, ifs, 0⟩ :: gs) scope cpos) pos) (.nx ((y, .v (.dct (puts out))) :: ρ)) :=
  ex_assign_comp (res := fun outs => .dct (puts outs)) K (make_dict K) hk (scopeChk_ok hchk).2 (scopeChk_ok hchk).1 hρ hit (ownB_ok hS) hx hif hcx hlen rfl hf hy hsw fun _ _ => rfl

/-- items that may be passed over -/
theorem cx_opt {own : List Str} {α β : Type} {Em : Rho → α → Prop} {x : Str} {c0 : Expr} (g : β → D) (f : β → Option α) : ∀ {cs : List β}, (∀ c ∈ cs, Tst C n S ((x, .v (g c)) :: ρ) c0 (f c).isSome) → (∀ c ∈ cs, ∀ a, f c = some a → Em ((x, .v (g c)) :: ρ) a) → CX C n S own Em x [c0] [] ρ (cs.map g) (cs.filterMap f)
  | [], _, _ => .nil
  | c :: cs, h1, h2 => by
    have ih := cx_opt (own := own) (Em := Em) g f (cs := cs) (fun e he => h1 e (List.mem_cons_of_mem _ he)) fun e he => h2 e (List.mem_cons_of_mem _ he)
    have t := h1 c List.mem_cons_self
    cases hf : f c with
    | none => rw [hf] at t; rw [List.filterMap_cons, hf]; exact .skip (.one t) ih
    | some a => rw [hf] at t; rw [List.filterMap_cons, hf]; exact .take (o1 := [a]) (.one t) (.emit (h2 c List.mem_cons_self a hf)) ih
theorem cx_flat {own : List Str} {α β : Type} {Em : Rho → α → Prop} {x : Str} {gs : List Comprehension} (g : β → D) (f : β → List α) : ∀ {cs : List β}, (∀ c ∈ cs, CL C n S own Em gs ((x, .v (g c)) :: ρ) (f c)) → CX C n S own Em x [] gs ρ (cs.map g) (cs.flatMap f)
  | [], _ => .nil
  | c :: cs, h => by
    rw [List.flatMap_cons]
    exact .take .nil (h c List.mem_cons_self) (cx_flat g f fun e he => h e (List.mem_cons_of_mem _ he))

theorem is_swapped {x y : Str} {py : Pos} {line : Nat} {elt : Expr} {gs : List Comprehension} {scope : Scope} {cpos : Pos} (h : S.lookup y = some .local) (hl : (py.line == cpos.line) = true) (hn : (scope.names.any fun p => p.1 == y && (p.2 == .local || p.2 == .cell)) = false) :
    ∀ env : Env, env.scope.kind = .function → env.scope.names = S → swapsWith (.ListComp elt gs scope cpos) (some (.Name y py)) line env = pure true := by
  intro env h1 h2
  unfold swapsWith
  have hk : env.kindOf y = some .local := by unfold Env.kindOf; rw [h2, h]
  have hb : env.blockKind = .function := by unfold Env.blockKind; rw [h1]; rfl
  show pure (env.blockKind == .function && env.kindOf y == some .local && py.line == cpos.line && !(scope.names.any fun p => p.1 == y && (p.2 == .local || p.2 == .cell))) = _
  rw [hk, hb, hl, hn]; rfl
theorem is_swappedD {x y : Str} {py : Pos} {line : Nat} {kx vx : Expr} {gs : List Comprehension} {scope : Scope} {cpos : Pos} (h : S.lookup y = some .local) (hl : (py.line == cpos.line) = true) (hn : (scope.names.any fun p => p.1 == y && (p.2 == .local || p.2 == .cell)) = false) :
    ∀ env : Env, env.scope.kind = .function → env.scope.names = S → swapsWith (.DictComp kx vx gs scope cpos) (some (.Name y py)) line env = pure true := by
  intro env h1 h2
  unfold swapsWith
  have hk : env.kindOf y = some .local := by unfold Env.kindOf; rw [h2, h]
  have hb : env.blockKind = .function := by unfold Env.blockKind; rw [h1]; rfl
  show pure (env.blockKind == .function && env.kindOf y == some .local && py.line == cpos.line && !(scope.names.any fun p => p.1 == y && (p.2 == .local || p.2 == .cell))) = _
  rw [hk, hb, hl, hn]; rfl
end
end Mine

/-! part 31 -/
namespace Mine
set_option maxRecDepth 100000
section
variable {C : Cx}

theorem getD_some {α : Type} {l : List α} {k : Nat} (d : α) (h : k < l.length) : l[k]? = some (l.getD k d) := by
  rw [List.getD_eq_getElem?_getD, List.getElem?_eq_getElem h]; rfl

/-- one leaf made in a comprehension's frame -/
theorem ev_leafAt (H : Glob C) {n : Nat} {S : Sig} {ρ : Rho} {s : List Int} (hs : s.length ≤ 10) {k : Nat} (hk : k < s.length) {p1 p2 p3 p4 p5 p6 p7 pos : Pos} (hS : S.lookup (Str.ofString "_law_leaf") = some .globalImplicit)
    (h1 : ρ.lookup (Str.ofString "s") = some (.v (.lst (s.map .int)))) (h2 : ρ.lookup (Str.ofString "letters") = some (.v (.str letters))) (h3 : ρ.lookup (Str.ofString "k") = some (.v (.int k))) (hn : 1 ≤ n) :
    Ev C n S ρ (.Call (.Name (Str.ofString "_law_leaf") p1) [.Subscript (.Name (Str.ofString "s") p2) (.Name (Str.ofString "k") p3) p4, .Subscript (.Name (Str.ofString "letters") p5) (.Name (Str.ofString "k") p6) p7] [] pos) (leafE (s.getD k 0) (letter k)).d := by
  obtain ⟨f, hg, hcal, hf⟩ := has_leaf H
  refine ev_call (nameV_global H.K hS hg) hcal (.cons (fun _ => rfl) (ev_sub (ev_name h1) (ev_name h3) (fun _ _ => rfl) (item_lst (by omega) (by omega) ?_)) (.cons (fun _ => rfl) (ev_sub (ev_name h2) (ev_name h3) (fun _ _ => rfl) (item_str (by omega) ?_ (by decide))) .nil)) ((hf _ _ ⟨s.getD k 0, letter k, by show 1 ≤ 10; decide, rfl, rfl⟩).up hn)
  · rw [List.getElem?_map, Int.toNat_natCast, getD_some 0 hk]; rfl
  · show (k : Int) < ((10 : Nat) : Int); omega

theorem bs_last {s : List Int} (hs : 2 ≤ s.length) : bsAt s (s.length - 1) = [(0, s.length)] := by
  obtain ⟨h1, h2⟩ := bs_chain s hs (s.length - 1) (by omega)
  have hl : (bsAt s (s.length - 1)).length = 1 := by omega
  generalize bsAt s (s.length - 1) = bs at h1 hl
  cases h1 with
  | one a b h => rfl
  | cons a b c r h hr => cases hr <;> simp at hl

theorem seg_all (es : List Ent) : seg es 0 es.length = es := by unfold seg; simp

theorem ev_weighN (H : Glob C) {n : Nat} (hn : 1 ≤ n) {S : Sig} {ρ : Rho} {np pos : Pos} {e1 e2 : Expr} {x : Str} {W : List (Str × D)} {w : Nat → Int} (hc : Cov W w x) (hS : S.lookup (Str.ofString "_law_weigh") = some .globalImplicit) (h1 : Ev C n S ρ e1 (.str x)) (h2 : Ev C n S ρ e2 (.dct W))
    (hs1 : ∀ env, starEach [e1, e2] env = (false, eval e1 env) :: starEach [e2] env) (hs2 : ∀ env, starEach [e2] env = (false, eval e2 env) :: starEach [] env) : Ev C n S ρ (.Call (.Name (Str.ofString "_law_weigh") np) [e1, e2] [] pos) (.int (wt w x)) := by
  obtain ⟨f, hg, hcal, hf⟩ := has_weigh H
  exact ev_call (nameV_global H.K hS hg) hcal (.cons hs1 h1 (.cons hs2 h2 .nil)) ((hf _ _ ⟨x, W, w, hc.1, hc.2, rfl, rfl⟩).up hn)
theorem calls_nodup (w : Nat → Int) (ca : List (Str × Row)) : (keys (amap D.int (callsL w ca))).Nodup := by
  have e : keys (amap D.int (callsL w ca)) = whos2.filterMap fun who => ((alook ca who).bind (wOf w)).map fun _ => who := by
    unfold keys amap callsL
    rw [List.map_map, List.map_filterMap]
    refine congrArg (fun f => List.filterMap f whos2) (funext fun x => ?_)
    rw [Option.map_map]; rfl
  rw [e]
  have hn : whos2.Nodup := by decide
  unfold List.Nodup at *
  refine List.Pairwise.filterMap _ ?_ hn
  intro a b hab x hx y hy
  obtain ⟨_, _, rfl⟩ := Option.map_eq_some_iff.mp hx
  obtain ⟨_, _, rfl⟩ := Option.map_eq_some_iff.mp hy
  exact hab

theorem law_body (H : Glob C) {ns : List Int} {s : List Int} (hs : s = (ns.length : Int) :: 5 :: ns.take 8) (hns : ns.length ≤ 63) {es : List Ent} {W : List (Str × D)} {w : Nat → Int} (F : LG s es W w) :
    Exs C 2 (fscope 9).names [(Str.ofString "script", .v (.lst (ns.map .int)))] (fbody 9) (.rt (.bool true)) := by
  have K := H.K
  have hlo := F.lo
  have hhi := F.hi
  have hel : es.length = s.length := by rw [F.es_eq, List.length_map, List.length_range]
  have hsl : (s.map D.int).length = s.length := List.length_map ..
  obtain ⟨fs, hfs, hcs, hos⟩ := has_stats H
  obtain ⟨fw, hfw, hcw, how⟩ := has_weighed H
  obtain ⟨fc, hfc, hcc, hoc⟩ := has_count H
  -- s
  refine exs_cons K (ex_assign K (d := .lst (s.map .int)) (.inr (by rfl)) ?_ (not_swapped (by decide +kernel))) ?_
  · have e : s.map D.int = [D.int ((ns.map D.int).length : Nat), .int 5] ++ (ns.map D.int).take 8 := by rw [hs, List.length_map, ← List.map_take]; rfl
    rw [e]
    refine ev_bin (ev_list K (.cons (fun _ => rfl) (ev_call (nm K H.len (by rfl)) .blt (.cons (fun _ => rfl) (ev_name (by rfl)) .nil) (fn_len_lst (by rw [List.length_map]; omega))) (.cons (fun _ => rfl) ev_int .nil)) (by simp)) (ev_upto K (k := 8) (ev_name (by rfl)) ev_int (by rw [List.length_map]; omega)) (bin_add_lst K ?_)
    rw [List.length_take]; simp; omega
  refine exs_cons K (ex_assign K (d := .str letters) (.inr (by rfl)) ev_str (not_swapped (by decide +kernel))) ?_
  -- worth
  refine exs_cons K (ex_assign K (d := .dct W) (.inr (by rfl)) ?_ (not_swapped (by decide +kernel))) ?_
  · rw [F.W_eq]
    refine dictcomp K (ρc := [(Str.ofString "letters", .v (.str letters)), (Str.ofString "s", .v (.lst (s.map .int)))]) [] rfl (by decide +kernel) (capt_cons (by rfl) (by decide +kernel) (capt_cons (by rfl) (by decide +kernel) capt_nil))
      (xs := nums s.length) (it_range K (nm K H.range (by rfl)) ?_ (by omega) (fun _ => rfl)) (fun _ _ => rfl) (by decide +kernel) (by rfl) (by simp) ?_ (by rw [List.length_map, List.length_range]; omega)
    · rw [← hsl]; exact ev_call (nm K H.len (by rfl)) .blt (.cons (fun _ => rfl) (ev_name (by rfl)) .nil) (fn_len_lst (by rw [hsl]; omega))
    · refine cx_maps (fun (i : Nat) => D.int (i : Int)) _ fun k hk => ?_
      have hk' : k < s.length := List.mem_range.mp hk
      refine ⟨ev_sub (ev_name (by rfl)) (ev_name (by rfl)) (fun _ _ => rfl) (item_str (by omega) ?_ (by decide)), ev_sub (ev_name (by rfl)) (ev_name (by rfl)) (fun _ _ => rfl) (item_lst (by omega) (by omega) ?_)⟩
      · show (k : Int) < ((10 : Nat) : Int); omega
      · rw [List.getElem?_map, Int.toNat_natCast, getD_some 0 hk']; rfl
  -- leaves
  have hleaves : es.map Ent.d = (List.range s.length).map fun k => (leafE (s.getD k 0) (letter k)).d := by rw [F.es_eq, List.map_map]; rfl
  refine exs_cons K (ex_assign K (d := .lst (es.map Ent.d)) (.inr (by rfl)) ?_ (not_swapped (by decide +kernel))) ?_
  · rw [hleaves]
    refine listcomp K (ρc := [(Str.ofString "letters", .v (.str letters)), (Str.ofString "s", .v (.lst (s.map .int)))]) [] rfl (by decide +kernel) (capt_cons (by rfl) (by decide +kernel) (capt_cons (by rfl) (by decide +kernel) capt_nil))
      (xs := nums s.length) (it_range K (nm K H.range (by rfl)) ?_ (by omega) (fun _ => rfl)) (fun _ _ => rfl) (by decide +kernel) (by rfl) (by simp) ?_ (by rw [List.length_map, List.length_range]; omega)
    · rw [← hsl]; exact ev_call (nm K H.len (by rfl)) .blt (.cons (fun _ => rfl) (ev_name (by rfl)) .nil) (fn_len_lst (by rw [hsl]; omega))
    · exact cx_maps (fun (i : Nat) => D.int (i : Int)) _ fun k hk => ev_leafAt H hhi (List.mem_range.mp hk) (by rfl) (by rfl) (by rfl) (by rfl) (by decide)
  -- row
  have hrow : (bsAt s 0).map (rowD es w) = (List.range s.length).map fun k => rowD es w (k, k + 1) := by unfold bsAt; rw [List.map_map]; rfl
  refine exs_cons K (listcomp_asg (out := (List.range s.length).map fun k => rowD es w (k, k + 1)) K (ρc := [(Str.ofString "leaves", .v (.lst (es.map Ent.d))), (Str.ofString "worth", .v (.dct W))]) [] rfl (by decide +kernel) (capt_cons (by rfl) (by decide +kernel) (capt_cons (by rfl) (by decide +kernel) capt_nil))
      (xs := nums s.length) (it_range K (nm K H.range (by rfl)) ?_ (by omega) (fun _ => rfl)) (fun _ _ => rfl) (by decide +kernel) (by rfl) (by simp) ?_ (by rw [List.length_map, List.length_range]; omega) (by rfl) (is_swapped (x := Str.ofString "k") (by rfl) (by rfl) (by decide +kernel))) ?_
  · rw [← hsl]; exact ev_call (nm K H.len (by rfl)) .blt (.cons (fun _ => rfl) (ev_name (by rfl)) .nil) (fn_len_lst (by rw [hsl]; omega))
  · refine cx_maps (fun (i : Nat) => D.int (i : Int)) _ fun k hk => ?_
    have hk' : k < s.length := List.mem_range.mp hk
    have he : es[k]? = some (toldE (seg es k (k + 1))) := by
      obtain ⟨e, he⟩ : ∃ e, es[k]? = some e := ⟨es[k], List.getElem?_eq_getElem _⟩
      rw [F.one k e he]; exact he
    have hd : (es.map Ent.d)[((k : Nat) : Int).toNat]? = some (toldE (seg es k (k + 1))).d := by rw [List.getElem?_map, Int.toNat_natCast, he]; rfl
    exact ev_tuple K (ds := [.int k, .int (k + 1), (toldE (seg es k (k + 1))).d, (toldE (seg es k (k + 1))).w w]) (.cons (fun _ => rfl) (ev_name (by rfl)) (.cons (fun _ => rfl) (ev_bin (ev_name (by rfl)) ev_int bin_add_int) (.cons (fun _ => rfl) (ev_sub (ev_name (by rfl)) (ev_name (by rfl)) (fun _ _ => rfl) (item_lst (by omega) (by omega) hd))
      (.cons (fun _ => rfl) (ev_call (nameV_global K (by rfl) hfw) hcw (.cons (fun _ => rfl) (ev_sub (ev_name (by rfl)) (ev_name (by rfl)) (fun _ _ => rfl) (item_lst (by omega) (by omega) hd)) (.cons (fun _ => rfl) (ev_name (by rfl)) .nil)) (how _ _ ⟨_, W, w, F.cov k (k + 1) (by omega) (by omega), rfl, rfl⟩)) .nil)))) (by simp)
  rw [← hrow]
  refine exs_cons K (ex_assign K (d := .bool true) (.inl (by rfl)) ev_bool (fun _ _ => rfl)) ?_
  -- the loop
  refine exs_cons K (ex_for K (xs := nums (s.length - 1)) (turnR s es W w) (it_range K (nm K H.range (by rfl)) ?_ (by omega) (fun _ => rfl)) (fun _ _ => rfl) (.inl (by rfl))
    (sub_cons (by rfl) (sub_cons (by rfl) (sub_cons (by rfl) (sub_cons (by rfl) (sub_cons (by rfl) (sub_cons (by rfl) sub_nil)))))) fun k d hd => ?_) ?_
  · have e : ((s.length - 1 : Nat) : Int) = ((s.map D.int).length : Nat) - 1 := by rw [hsl]; omega
    rw [e]
    exact ev_bin (ev_call (nm K H.len (by rfl)) .blt (.cons (fun _ => rfl) (ev_name (by rfl)) .nil) (fn_len_lst (by rw [hsl]; omega))) ev_int bin_sub_int
  · obtain ⟨hk, rfl⟩ := nums_get hd
    exact law_turn H F.toLF (by omega)
  have hn1 : (nums (s.length - 1)).length = s.length - 1 := by unfold nums; rw [List.length_map, List.length_range]
  rw [hn1]
  unfold turnR
  rw [bs_last hlo]
  have hrow1 : [((0 : Nat), s.length)].map (rowD es w) = [.tup [.int 0, .int s.length, (toldE es).d, (toldE es).w w]] := by
    show [rowD es w (0, s.length)] = _
    unfold rowD
    have : seg es 0 s.length = es := by rw [← hel]; exact seg_all es
    rw [this]; rfl
  rw [hrow1]
  have hT : (toldE es).w w = .tup [.int (wt w (toldE es).a1), .int (wt w (toldE es).a2), .int (wt w (toldE es).a3), .int (wt w (toldE es).a4), .dct (caW w (toldE es).ca)] := rfl
  have hcovT : ECov W w (toldE es) := by have := F.cov 0 s.length (by omega) (Nat.le_refl _); rwa [show seg es 0 s.length = es by rw [← hel]; exact seg_all es] at this
  have hndT : (keys (caW w (toldE es).ca)).Nodup := by unfold caW; rw [keys_amap]; exact hcovT.nd
  have hlenT : (caW w (toldE es).ca).length ≤ 1000 := by unfold caW amap; rw [List.length_map]; exact hcovT.len
  obtain ⟨hz1, hz2⟩ := mergeD_nil (caW w (toldE es).ca) hndT
  have q3 : FnOk C 2 fs [.tup [.int 0, .int 0, .int 0, .int 0, .dct []], (toldE es).w w] ((toldE es).w w) := by
    refine hos _ _ ⟨_, _, _, _, _, _, _, _, [], caW w (toldE es).ca, .int _ _, .int _ _, .int _ _, .int _ _, (List.nodup_nil : (keys ([] : List (Str × D))).Nodup), by simpa using hlenT, hz2, rfl, ?_⟩
    rw [hz1, hT]; simp only [addD, Int.add_zero]
  have q4 : FnOk C 2 fs [(toldE es).w w, .tup [.int 0, .int 0, .int 0, .int 0, .dct []]] ((toldE es).w w) := by
    refine hos _ _ ⟨_, _, _, _, _, _, _, _, _, _, .int _ _, .int _ _, .int _ _, .int _ _, hndT, by simpa using hlenT, fun i k d d0 hd => by simp at hd, rfl, ?_⟩
    rw [hT]; simp only [addD, Int.zero_add]; rfl
  -- counts
  refine exs_cons K (ex_assign K (d := (toldE es).w w) (.inr (by rfl)) (ev_sub (ev_sub (ev_name (by rfl)) ev_int (fun _ _ => rfl) (item_lst (by decide) (by decide) rfl)) ev_int (fun _ _ => rfl) (item_tup (by decide) (by decide) rfl)) (fun _ _ => rfl)) ?_
  refine exs_cons K (ex_assign K (.inl (by rfl)) (ev_tuple K (ds := [.int 0, .int 0, .int 0, .int 0, .dct []]) (.cons (fun _ => rfl) ev_int (.cons (fun _ => rfl) ev_int (.cons (fun _ => rfl) ev_int (.cons (fun _ => rfl) ev_int (.cons (fun _ => rfl) (ev_dict_nil K) .nil))))) (by simp)) (fun _ _ => rfl)) ?_
  refine exs_cons K (ex_assign K (d := .bool true) (.inl (by rfl)) (ev_and (.cons (ev_name (by rfl)) (.cons (ev_eq (deep_entw w (toldE es)) (by decide) rfl (ev_call (nameV_global K (by rfl) hfs) hcs (.cons (fun _ => rfl) (ev_name (by rfl)) (.cons (fun _ => rfl) (ev_name (by rfl)) .nil)) q3) (ev_name (by rfl)) rfl)
    (.one (ev_eq (deep_entw w (toldE es)) (by decide) rfl (ev_call (nameV_global K (by rfl) hfs) hcs (.cons (fun _ => rfl) (ev_name (by rfl)) (.cons (fun _ => rfl) (ev_name (by rfl)) .nil)) q4) (ev_name (by rfl)) rfl))))) (fun _ _ => rfl)) ?_
  -- calls
  have itw : ∀ {n : Nat} {S : Sig} {ρ : Rho} {p1 p2 p3 : Pos}, It C n S ρ (.Tuple [.Constant (.str (Str.ofString "<g>")) 0 p1, .Constant (.str (Str.ofString "")) 0 p2] 0 p3) (whos2.map D.str) := fun {n S ρ p1 p2 p3} =>
    It.of K (ev_tuple K (.cons (fun _ => rfl) ev_str (.cons (fun _ => rfl) ev_str .nil)) (by simp)) (iter_tup K)
  have hcallsE : amap D.int (callsL w (toldE es).ca) = whos2.filterMap fun who => ((alook (toldE es).ca who).bind (wOf w)).map fun i => (who, D.int i) := by
    unfold amap callsL
    rw [List.map_filterMap]
    refine congrArg (fun f => List.filterMap f whos2) (funext fun x => ?_)
    rw [Option.map_map]; rfl
  have hcl2 : (amap D.int (callsL w (toldE es).ca)).length ≤ 1000 := by
    rw [hcallsE]; exact Nat.le_trans (List.length_filterMap_le _ _) (by decide)
  refine exs_cons K (dictcomp_asg K (ρc := [(Str.ofString "counts", .v ((toldE es).w w))]) (out := amap D.int (callsL w (toldE es).ca)) [] rfl (by decide +kernel) (capt_cons (by rfl) (by decide +kernel) capt_nil) itw (fun _ _ => rfl) (by decide +kernel) (by rfl) (by simp) ?_ hcl2 (by rfl) (is_swappedD (x := Str.ofString "who") (by rfl) (by rfl) (by decide +kernel))) ?_
  · rw [hcallsE]
    have c4 : ∀ {S : Sig} {ρ : Rho} {p1 p2 p3 : Pos}, ρ.lookup (Str.ofString "counts") = some (.v ((toldE es).w w)) → Ev C 2 S ρ (.Subscript (.Name (Str.ofString "counts") p1) (.Constant (.int 4) 0 p2) p3) (.dct (caW w (toldE es).ca)) := fun h => ev_sub (ev_name h) ev_int (fun _ _ => rfl) (item_tup (by decide) (by decide) rfl)
    have hdg : ∀ who, dget (caW w (toldE es).ca) who = (alook (toldE es).ca who).map (Row.w w) := fun who => dget_amap _ _ _
    refine cx_opt D.str _ (fun who hw => tst_in' (ev_name (by rfl)) (EvD.of (c4 (by rfl))) rfl ?_) (fun who hw a ha => ?_)
    · rw [hdg]
      cases hl : alook (toldE es).ca who with
      | none => rfl
      | some r => obtain ⟨x, rfl⟩ := F.kT who hw r hl; rfl
    · obtain ⟨i, hi, rfl⟩ := Option.map_eq_some_iff.mp ha
      refine ⟨ev_name (by rfl), ev_subD (EvD.of (c4 (by rfl))) (ev_name (by rfl)) ?_ fun _ _ => rfl⟩
      rw [hdg]
      cases hl : alook (toldE es).ca who with
      | none => rw [hl] at hi; cases hi
      | some r => obtain ⟨x, rfl⟩ := F.kT who hw r hl; rw [hl] at hi; cases hi; rfl
  rw [puts_nodup (calls_nodup w _)]
  -- weight
  refine exs_cons K (ex_assign K (d := .int (weightL w es).sum) (.inl (by rfl)) (ev_call (nm K H.sum (by rfl)) .blt (.cons (fun _ => rfl) (d := .lst ((weightL w es).map .int)) ?_ .nil) (fn_sum K)) (fun _ _ => rfl)) ?_
  · have hwE : (weightL w es).map D.int = es.flatMap fun e => whos2.filterMap fun who => ((alook e.ca who).bind (wOf w)).map D.int := by
      unfold weightL
      rw [List.map_flatMap]
      congr 1
      funext e
      rw [List.map_filterMap]
    have hwl : ((weightL w es).map D.int).length ≤ 1000 := by
      have key : ∀ l : List Ent, (weightL w l).length ≤ 2 * l.length := by
        intro l
        induction l with
        | nil => exact Nat.le_refl _
        | cons e l ih =>
          have : weightL w (e :: l) = (whos2.filterMap fun who => (alook e.ca who).bind (wOf w)) ++ weightL w l := rfl
          rw [this, List.length_append, List.length_cons]
          have := List.length_filterMap_le (fun who => (alook e.ca who).bind (wOf w)) whos2
          have h2 : whos2.length = 2 := rfl
          omega
      have := key es
      rw [List.length_map]; omega
    rw [hwE] at hwl ⊢
    refine listcomp K (ρc := [(Str.ofString "worth", .v (.dct W))]) [] rfl (by decide +kernel) (capt_cons (by rfl) (by decide +kernel) capt_nil) (It.of K (ev_name (by rfl)) (iter_lst K)) (fun _ _ => rfl) (by decide +kernel) (by rfl) (by simp) ?_ hwl
    refine cx_flat Ent.d _ fun e he => ?_
    refine CL.clause itw (fun _ _ => rfl) (ownB_ok (own := []) (by decide +kernel)) (by rfl) (by simp) ?_
    have c4 : ∀ {S : Sig} {ρ : Rho} {p1 p2 p3 : Pos}, ρ.lookup (Str.ofString "leaf") = some (.v e.d) → Ev C 2 S ρ (.Subscript (.Name (Str.ofString "leaf") p1) (.Constant (.int 4) 0 p2) p3) (.dct (caD e.ca)) := fun h => ev_sub (ev_name h) ev_int (fun _ _ => rfl) (item_tup (by decide) (by decide) rfl)
    have hdg : ∀ who, dget (caD e.ca) who = (alook e.ca who).map Row.d := fun who => dget_amap _ _ _
    refine cx_opt D.str _ (fun who hw => tst_in' (ev_name (by rfl)) (EvD.of (c4 (by rfl))) rfl ?_) (fun who hw a ha => ?_)
    · rw [hdg]
      cases hl : alook e.ca who with
      | none => rfl
      | some r => obtain ⟨x, rfl, _⟩ := F.kE e he who hw r hl; rfl
    · cases hl : alook e.ca who with
      | none => rw [hl] at ha; cases ha
      | some r =>
        obtain ⟨x, rfl, hcx⟩ := F.kE e he who hw r hl
        rw [hl] at ha; cases ha
        exact ev_weighN H (by decide) hcx (by rfl) (ev_subD (EvD.of (c4 (by rfl))) (ev_name (by rfl)) (by rw [hdg, hl]; rfl) fun _ _ => rfl) (ev_name (by rfl)) (fun _ => rfl) (fun _ => rfl)
  refine exs_cons K (ex_assign K (d := .bool true) (.inl (by rfl)) (ev_and (.cons (ev_name (by rfl)) (.one (ev_eq (k := 0) (d := .int (weightL w es).sum) rfl (by decide) rfl (ev_call (nameV_global K (by rfl) hfc) hcc (.cons (fun _ => rfl) (ev_name (by rfl)) .nil) ((hoc _ _ ⟨callsL w (toldE es).ca, rfl, by rw [F.sums]⟩).up (by decide))) (ev_name (by rfl)) rfl)))) (fun _ _ => rfl)) ?_
  have hdl : deepD 4 (.lst (es.map Ent.d)) = true := by
    show (es.map Ent.d).all (deepD 3) = true
    rw [List.all_map]; exact List.all_eq_true.mpr fun e _ => deep_ent e
  refine exs_ret (ev_and (.cons (ev_name (by rfl)) (.one (ev_eq hdl (by decide) rfl (ev_name (by rfl)) ?_ rfl))))
  rw [hleaves]
  refine listcomp K (ρc := [(Str.ofString "letters", .v (.str letters)), (Str.ofString "s", .v (.lst (s.map .int)))]) [] rfl (by decide +kernel) (capt_cons (by rfl) (by decide +kernel) (capt_cons (by rfl) (by decide +kernel) capt_nil))
    (xs := nums s.length) (it_range K (nm K H.range (by rfl)) ?_ (by omega) (fun _ => rfl)) (fun _ _ => rfl) (by decide +kernel) (by rfl) (by simp) ?_ (by rw [List.length_map, List.length_range]; omega)
  · rw [← hsl]; exact ev_call (nm K H.len (by rfl)) .blt (.cons (fun _ => rfl) (ev_name (by rfl)) .nil) (fn_len_lst (by rw [hsl]; omega))
  · exact cx_maps (fun (i : Nat) => D.int (i : Int)) _ fun k hk => ev_leafAt H hhi (List.mem_range.mp hk) (by rfl) (by rfl) (by rfl) (by rfl) (by decide)
end
end Mine

/-! part 32 -/
namespace Mine
set_option maxRecDepth 100000

/-! the plain law: no program in sight -/

/-- keys in the order of their first sight -/
def nubStep (acc : List Str) (k : Str) : List Str := if k ∈ acc then acc else acc ++ [k]
def nub (ks : List Str) : List Str := ks.foldl nubStep []
theorem nub_snoc (ks : List Str) (k : Str) : nub (ks ++ [k]) = nubStep (nub ks) k := by unfold nub; rw [List.foldl_append]; rfl
theorem nub_mem : ∀ (ks : List Str) {k : Str}, k ∈ nub ks ↔ k ∈ ks := by
  have key : ∀ (ks acc : List Str) (k : Str), k ∈ ks.foldl nubStep acc ↔ k ∈ acc ∨ k ∈ ks := by
    intro ks
    induction ks with
    | nil => intro acc k; simp
    | cons a r ih =>
      intro acc k
      rw [List.foldl_cons, ih]
      unfold nubStep
      split
      · rename_i h
        constructor
        · rintro (q | q)
          · exact .inl q
          · exact .inr (List.mem_cons_of_mem _ q)
        · rintro (q | q)
          · exact .inl q
          · rcases List.mem_cons.mp q with rfl | q
            · exact .inl h
            · exact .inr q
      · simp only [List.mem_append, List.mem_cons, List.not_mem_nil, or_false]
        constructor
        · rintro ((q | q) | q)
          · exact .inl q
          · exact .inr (.inl q)
          · exact .inr (.inr q)
        · rintro (q | q | q)
          · exact .inl (.inl q)
          · exact .inl (.inr q)
          · exact .inr q
  intro ks k
  unfold nub
  rw [key]; simp
theorem nub_nodup (ks : List Str) : (nub ks).Nodup := by
  have key : ∀ (ks acc : List Str), acc.Nodup → (ks.foldl nubStep acc).Nodup := by
    intro ks
    induction ks with
    | nil => intro acc h; exact h
    | cons a r ih =>
      intro acc h
      rw [List.foldl_cons]
      refine ih _ ?_
      unfold nubStep
      split
      · exact h
      · rename_i hn
        rw [List.nodup_append]
        refine ⟨h, by simp, fun x hx y hy => ?_⟩
        rw [List.mem_singleton.mp hy]
        rintro rfl
        exact hn hx
  exact key ks [] List.nodup_nil
theorem nub_self : ∀ {ks : List Str}, ks.Nodup → nub ks = ks := by
  have key : ∀ (ks acc : List Str), (acc ++ ks).Nodup → ks.foldl nubStep acc = acc ++ ks := by
    intro ks
    induction ks with
    | nil => intro acc _; simp
    | cons a r ih =>
      intro acc h
      have hn : a ∉ acc := fun hm => by
        rw [List.nodup_append] at h
        exact h.2.2 _ hm _ List.mem_cons_self rfl
      have e : nubStep acc a = acc ++ [a] := by unfold nubStep; rw [if_neg hn]
      rw [List.foldl_cons, e, ih _ (by rw [List.append_assoc]; exact h), List.append_assoc]; rfl
  intro ks h
  exact key ks [] (by simpa using h)
theorem nub_app (A B : List Str) : nub (A ++ B) = nub A ++ (nub B).filter (fun k => k ∉ nub A) := by
  have key : ∀ n (B : List Str), B.length = n → nub (A ++ B) = nub A ++ (nub B).filter (fun k => k ∉ nub A) := by
    intro n
    induction n with
    | zero => intro B h; rw [List.eq_nil_of_length_eq_zero h]; simp [nub]
    | succ n ih =>
      intro B h
      obtain ⟨B', k, rfl⟩ : ∃ B' k, B = B' ++ [k] := ⟨B.dropLast, B.getLast (by rintro rfl; cases h), (List.dropLast_concat_getLast _).symm⟩
      have hB' : B'.length = n := by simpa using h
      have ih' := ih B' hB'
      rw [← List.append_assoc, nub_snoc, nub_snoc, ih']
      unfold nubStep
      by_cases h1 : k ∈ nub A
      · rw [if_pos (List.mem_append_left _ h1)]
        split
        · rfl
        · rw [List.filter_append]; simp [h1]
      · by_cases h2 : k ∈ nub B'
        · rw [if_pos h2, if_pos (List.mem_append_right _ (List.mem_filter.mpr ⟨h2, by simpa using h1⟩))]
        · rw [if_neg h2, if_neg, List.filter_append, List.append_assoc]
          · simp [h1]
          · intro hm
            rcases List.mem_append.mp hm with q | q
            · exact h1 q
            · exact h2 (List.mem_filter.mp q).1
  exact key _ B rfl

/-- told's callers in closed form -/
theorem toldAcc_eq (es : List Ent) (ks : List Str) : toldAcc es ks = (nub ks).map fun k => (k, joinRows (rowsOf es k)) := by
  have key : ∀ (ks acc : List Str), ks.foldl (toldStep es) (acc.map fun k => (k, joinRows (rowsOf es k))) = (ks.foldl nubStep acc).map fun k => (k, joinRows (rowsOf es k)) := by
    intro ks
    induction ks with
    | nil => intro acc; rfl
    | cons a r ih =>
      intro acc
      rw [List.foldl_cons, List.foldl_cons, ← ih]
      congr 1
      unfold toldStep nubStep
      have hk : keys (acc.map fun k => (k, joinRows (rowsOf es k))) = acc := by unfold keys; rw [List.map_map]; exact List.map_id _
      rw [hk]
      split
      · rfl
      · rw [List.map_append]; rfl
  exact key ks []
def kys (es : List Ent) : List Str := es.flatMap fun e => keys e.ca
theorem toldCa_eq (es : List Ent) : toldCa es = (nub (kys es)).map fun k => (k, joinRows (rowsOf es k)) := toldAcc_eq es _
theorem toldCa_keys (es : List Ent) : keys (toldCa es) = nub (kys es) := by rw [toldCa_eq]; unfold keys; rw [List.map_map]; exact List.map_id _
theorem kys_app (A B : List Ent) : kys (A ++ B) = kys A ++ kys B := List.flatMap_append ..
theorem rowsOf_app (A B : List Ent) (k : Str) : rowsOf (A ++ B) k = rowsOf A k ++ rowsOf B k := List.filterMap_append ..
theorem rowsOf_nil {es : List Ent} {k : Str} (h : k ∉ kys es) : rowsOf es k = [] := by
  cases hr : rowsOf es k with
  | nil => rfl
  | cons r t =>
    obtain ⟨e, he, hm⟩ := mem_rowsOf (es := es) (k := k) (r := r) (by rw [hr]; exact List.mem_cons_self)
    exact absurd (List.mem_flatMap.mpr ⟨e, he, List.mem_map.mpr ⟨_, hm, rfl⟩⟩) h
theorem alook_map (ks : List Str) (J : Str → Row) (k : Str) (hn : ks.Nodup) : alook (ks.map fun k => (k, J k)) k = if k ∈ ks then some (J k) else none := by
  split
  · rename_i h
    refine alook_mem ?_ (List.mem_map.mpr ⟨k, h, rfl⟩)
    unfold keys; rw [List.map_map]
    exact (List.map_id ks).symm ▸ hn
  · rename_i h
    refine alook_none ?_
    unfold keys; rw [List.map_map]
    intro hm
    exact h ((List.map_id ks) ▸ hm)
theorem dget_map (ks : List Str) (g : Str → D) (k : Str) : dget (ks.map fun k => (k, g k)) k = if k ∈ ks then some (g k) else none := by
  induction ks with
  | nil => rfl
  | cons a r ih =>
    unfold dget at *
    rw [List.map_cons, List.find?_cons]
    by_cases h : a = k
    · subst h; simp
    · have h' : ¬ k = a := fun e => h e.symm
      simp only [h, decide_false]
      rw [ih]
      simp [h']

/-- a fold of one dict into another, in closed form -/
def mval (g h : Str → D) (NA ks : List Str) (k : Str) : D := if k ∈ NA then if k ∈ ks then combD (g k) (h k) else g k else h k
theorem merge_closed (g h : Str → D) {NA ks : List Str} (hk : ks.Nodup) : ∀ i, i ≤ ks.length →
    mergeD (NA.map fun k => (k, g k)) ((ks.map fun k => (k, h k)).take i) = (NA ++ (ks.take i).filter (fun k => k ∉ NA)).map fun k => (k, mval g h NA (ks.take i) k) := by
  intro i
  induction i with
  | zero =>
    intro _
    simp only [List.take_zero, List.filter_nil, List.append_nil]
    unfold mergeD
    rw [List.foldl_nil]
    refine List.map_congr_left fun k hm => ?_
    unfold mval; rw [if_pos hm]; simp
  | succ i ih =>
    intro hi
    have hlt : i < ks.length := hi
    have hki : ks[i]? = some ks[i] := List.getElem?_eq_getElem hlt
    generalize ks[i] = k at hki
    have hp : (ks.map fun k => (k, h k))[i]? = some (k, h k) := by rw [List.getElem?_map, hki]; rfl
    have hnew : k ∉ ks.take i := fun hm => by
      obtain ⟨j, hj, he⟩ := List.mem_iff_getElem.mp hm
      have hj' : j < i := by rw [List.length_take] at hj; omega
      rw [List.getElem_take] at he
      have e1 : ks[j]? = some k := by rw [List.getElem?_eq_getElem (by omega), he]
      have := (List.getElem?_inj (by omega) hk).mp (e1.trans hki.symm)
      omega
    have e : mergeD (NA.map fun k => (k, g k)) ((ks.map fun k => (k, h k)).take (i + 1)) = stepD (mergeD (NA.map fun k => (k, g k)) ((ks.map fun k => (k, h k)).take i)) (k, h k) := by
      unfold mergeD; rw [take_snoc hp, List.foldl_append]; rfl
    rw [e, ih (by omega), take_snoc hki]
    unfold stepD
    rw [dget_map]
    by_cases hA : k ∈ NA
    · rw [if_pos (List.mem_append_left _ hA)]
      have hf : (ks.take i ++ [k]).filter (fun k => k ∉ NA) = (ks.take i).filter (fun k => k ∉ NA) := by rw [List.filter_append]; simp [hA]
      rw [hf]
      have hv : mval g h NA (ks.take i) k = g k := by unfold mval; rw [if_pos hA, if_neg hnew]
      show dput _ k (combD (mval g h NA (ks.take i) k) (h k)) = _
      rw [hv]
      unfold dput
      rw [if_pos (List.any_eq_true.mpr ⟨(k, mval g h NA (ks.take i) k), List.mem_map.mpr ⟨k, List.mem_append_left _ hA, rfl⟩, by simp⟩), List.map_map]
      refine List.map_congr_left fun k' hm => ?_
      show (if k' = k then (k', combD (g k) (h k)) else (k', mval g h NA (ks.take i) k')) = _
      by_cases hkk : k' = k
      · subst hkk
        rw [if_pos rfl]
        unfold mval; rw [if_pos hA, if_pos (List.mem_append_right _ List.mem_cons_self)]
      · rw [if_neg hkk]
        congr 1
        unfold mval
        have : (k' ∈ ks.take i ++ [k]) ↔ k' ∈ ks.take i := by simp [hkk]
        simp only [this]
    · have hnk : k ∉ NA ++ (ks.take i).filter (fun k => k ∉ NA) := fun hm => by
        rcases List.mem_append.mp hm with q | q
        · exact hA q
        · exact hnew (List.mem_filter.mp q).1
      rw [if_neg hnk]
      have hf : (ks.take i ++ [k]).filter (fun k => k ∉ NA) = (ks.take i).filter (fun k => k ∉ NA) ++ [k] := by rw [List.filter_append]; simp [hA]
      rw [hf]
      show dput _ k (h k) = _
      have hnk2 : k ∉ keys ((NA ++ (ks.take i).filter (fun k => k ∉ NA)).map fun k => (k, mval g h NA (ks.take i) k)) := by
        unfold keys; rw [List.map_map]
        intro hm
        exact hnk ((List.map_id (NA ++ (ks.take i).filter (fun k => k ∉ NA))) ▸ hm)
      rw [dput_eq, aput_new hnk2, ← List.append_assoc, List.map_append (l₁ := NA ++ (ks.take i).filter (fun k => k ∉ NA))]
      congr 1
      · refine List.map_congr_left fun k' hm => ?_
        congr 1
        have hkk : k' ≠ k := fun e => hnk (e ▸ hm)
        unfold mval
        have : (k' ∈ ks.take i ++ [k]) ↔ k' ∈ ks.take i := by simp [hkk]
        simp only [this]
      · show [(k, h k)] = [(k, mval g h NA (ks.take i ++ [k]) k)]
        unfold mval; rw [if_neg hA]
end Mine

/-! part 33 -/
namespace Mine
set_option maxRecDepth 100000

theorem fold_min : ∀ (r : List (List Str)) (m : Nat), r.foldl (fun m l => min m l.length) m = match r with | [] => m | _ => min m (short r)
  | [], m => rfl
  | [a], m => rfl
  | a :: b :: r, m => by
    have h1 := fold_min (b :: r) (min m a.length)
    have h2 := fold_min (b :: r) a.length
    rw [List.foldl_cons, h1]
    show min (min m a.length) (short (b :: r)) = min m ((b :: r).foldl _ a.length)
    rw [h2]
    show min (min m a.length) (short (b :: r)) = min m (min a.length (short (b :: r)))
    omega
theorem short_app {la lb : List (List Str)} (ha : la ≠ []) (hb : lb ≠ []) : short (la ++ lb) = min (short la) (short lb) := by
  cases la with
  | nil => exact absurd rfl ha
  | cons a r =>
    cases lb with
    | nil => exact absurd rfl hb
    | cons b q =>
      show (r ++ b :: q).foldl _ a.length = min (r.foldl _ a.length) _
      rw [List.foldl_append, fold_min (b :: q)]
theorem joinT_len (ls : List (List Str)) : (joinT ls).length = short ls := by unfold joinT; rw [List.length_map, List.length_range]
theorem joinT_get (ls : List (List Str)) (p : Nat) (h : p < (joinT ls).length) : (joinT ls)[p] = cat (ls.reverse.map fun l => l.getD p Str.empty) := by simp [joinT]
theorem joinT_app {la lb : List (List Str)} (ha : la ≠ []) (hb : lb ≠ []) : joinT (la ++ lb) = List.zipWith (fun y x => y ++ x) (joinT lb) (joinT la) := by
  refine List.ext_getElem (by rw [List.length_zipWith, joinT_len, joinT_len, joinT_len, short_app ha hb]; omega) fun p h1 h2 => ?_
  rw [List.getElem_zipWith, joinT_get, joinT_get, joinT_get, List.reverse_append, List.map_append, cat_app]
theorem jr_s {rows : List Row} (hne : rows ≠ []) (h : ∀ r ∈ rows, ∃ x, r = .s x) : ∃ xs : List Str, rows = xs.map .s ∧ xs ≠ [] ∧ joinRows rows = .s (cat xs) := by
  have e : rows = (rows.map strOf).map .s := by
    rw [List.map_map]
    refine (List.map_id _).symm.trans (List.map_congr_left fun r hr => ?_)
    obtain ⟨x, rfl⟩ := h r hr
    rfl
  refine ⟨rows.map strOf, e, by simpa using hne, ?_⟩
  cases rows with
  | nil => exact absurd rfl hne
  | cons r t =>
    obtain ⟨x, rfl⟩ := h r List.mem_cons_self
    rfl
theorem jr_t {rows : List Row} (hne : rows ≠ []) (h : ∀ r ∈ rows, ∃ l, r = .t l) : ∃ ls : List (List Str), rows = ls.map .t ∧ ls ≠ [] ∧ joinRows rows = .t (joinT ls) := by
  have e : rows = (rows.map lstOf).map .t := by
    rw [List.map_map]
    refine (List.map_id _).symm.trans (List.map_congr_left fun r hr => ?_)
    obtain ⟨x, rfl⟩ := h r hr
    rfl
  refine ⟨rows.map lstOf, e, by simpa using hne, ?_⟩
  cases rows with
  | nil => exact absurd rfl hne
  | cons r t =>
    obtain ⟨x, rfl⟩ := h r List.mem_cons_self
    rfl
theorem map_inj_s {xs ys : List Str} (h : xs.map Row.s = ys.map Row.s) : xs = ys := List.map_inj_right (fun _ _ e => by cases e; rfl) |>.mp h
theorem map_inj_t {xs ys : List (List Str)} (h : xs.map Row.t = ys.map Row.t) : xs = ys := List.map_inj_right (fun _ _ e => by cases e; rfl) |>.mp h

/-- two rows of one who, joined: texts -/
theorem comb_s {ra rb : List Row} (ha : ra ≠ []) (hb : rb ≠ []) (h : ∀ r ∈ ra ++ rb, ∃ x, r = .s x) : ∃ x y, joinRows ra = .s x ∧ joinRows rb = .s y ∧ joinRows (ra ++ rb) = .s (x ++ y) := by
  obtain ⟨xs, e1, _, e2⟩ := jr_s ha fun r hr => h r (List.mem_append_left _ hr)
  obtain ⟨ys, f1, _, f2⟩ := jr_s hb fun r hr => h r (List.mem_append_right _ hr)
  obtain ⟨zs, g1, _, g2⟩ := jr_s (rows := ra ++ rb) (by simp [ha]) h
  have : zs = xs ++ ys := map_inj_s (by rw [← g1, e1, f1, List.map_append])
  exact ⟨cat xs, cat ys, e2, f2, by rw [g2, this, cat_app]⟩
theorem comb_t {ra rb : List Row} (ha : ra ≠ []) (hb : rb ≠ []) (h : ∀ r ∈ ra ++ rb, ∃ l, r = .t l) : ∃ x y, joinRows ra = .t x ∧ joinRows rb = .t y ∧ joinRows (ra ++ rb) = .t (List.zipWith (fun y x => y ++ x) y x) := by
  obtain ⟨xs, e1, n1, e2⟩ := jr_t ha fun r hr => h r (List.mem_append_left _ hr)
  obtain ⟨ys, f1, n2, f2⟩ := jr_t hb fun r hr => h r (List.mem_append_right _ hr)
  obtain ⟨zs, g1, _, g2⟩ := jr_t (rows := ra ++ rb) (by simp [ha]) h
  have : zs = xs ++ ys := map_inj_t (by rw [← g1, e1, f1, List.map_append])
  exact ⟨joinT xs, joinT ys, e2, f2, by rw [g2, this, joinT_app n1 n2]⟩

/-- a row of texts no longer than b, of signs m letters know -/
def Sm (m b : Nat) (x : Str) : Prop := (∀ c ∈ x.cps.toList, 97 ≤ c ∧ c < 97 + m) ∧ x.length ≤ b
def RSm (m b : Nat) : Row → Prop
  | .s x => Sm m b x
  | .t l => l.length ≤ 5 ∧ ∀ x ∈ l, Sm m b x
theorem Sm.app {m a b : Nat} {x y : Str} (h1 : Sm m a x) (h2 : Sm m b y) : Sm m (a + b) (x ++ y) := by
  refine ⟨fun c hc => ?_, by rw [Str.length_append]; have := h1.2; have := h2.2; omega⟩
  rw [Str.cps_append, Array.toList_append] at hc
  rcases List.mem_append.mp hc with q | q
  · exact h1.1 c q
  · exact h2.1 c q
theorem Sm.cat {m b : Nat} : ∀ {xs : List Str}, (∀ x ∈ xs, Sm m b x) → Sm m (xs.length * b) (cat xs)
  | [], _ => by rw [cat_nil]; exact ⟨fun c hc => (by cases hc), by simp [Str.length, Str.empty]⟩
  | x :: xs, h => by
    rw [cat_cons, List.length_cons, Nat.succ_mul, Nat.add_comm]
    exact (h x List.mem_cons_self).app (Sm.cat fun y hy => h y (List.mem_cons_of_mem _ hy))
theorem Sm.mono {m a b : Nat} {x : Str} (h : Sm m a x) (hab : a ≤ b) : Sm m b x := ⟨h.1, Nat.le_trans h.2 hab⟩
theorem RSm.join {m b : Nat} {rows : List Row} (hne : rows ≠ []) (h : ∀ r ∈ rows, RSm m b r) (hom : (∀ r ∈ rows, ∃ x, r = .s x) ∨ (∀ r ∈ rows, ∃ l, r = .t l)) : RSm m (rows.length * b) (joinRows rows) := by
  rcases hom with hs | ht
  · obtain ⟨xs, e1, _, e2⟩ := jr_s hne hs
    rw [e2, e1, List.length_map]
    exact Sm.cat fun x hx => h (.s x) (by rw [e1]; exact List.mem_map.mpr ⟨x, hx, rfl⟩)
  · obtain ⟨ls, e1, n1, e2⟩ := jr_t hne ht
    have hl : ∀ l ∈ ls, l.length ≤ 5 ∧ ∀ x ∈ l, Sm m b x := fun l hl => h (.t l) (by rw [e1]; exact List.mem_map.mpr ⟨l, hl, rfl⟩)
    rw [e2, e1, List.length_map]
    refine ⟨?_, fun y hy => ?_⟩
    · rw [joinT_len]
      obtain ⟨l, hm, he⟩ := short_mem n1
      have := (hl l hm).1; omega
    · unfold joinT at hy
      obtain ⟨p, hp, rfl⟩ := List.mem_map.mp hy
      have hp' := List.mem_range.mp hp
      have := Sm.cat (m := m) (b := b) (xs := ls.reverse.map fun l => l.getD p Str.empty) (fun x hx => by
        obtain ⟨l, hm, rfl⟩ := List.mem_map.mp hx
        have hm' := List.mem_reverse.mp hm
        have hlt := Nat.lt_of_lt_of_le hp' (short_le hm')
        rw [List.getD_eq_getElem?_getD, List.getElem?_eq_getElem hlt]
        exact (hl l hm').2 _ (List.getElem_mem _))
      rwa [List.length_map, List.length_reverse] at this

def isTextKey (k : Str) : Bool := whos2.contains k
def KindOk (ca : List (Str × Row)) : Prop := ∀ p ∈ ca, (isTextKey p.1 = true → ∃ x, p.2 = .s x) ∧ (isTextKey p.1 = false → ∃ l, p.2 = .t l)
/-- an entry that the leaves or their joins make -/
structure EOk (m b : Nat) (e : Ent) : Prop where
  txt : ∀ p, Sm m b (e.at p)
  nd : (keys e.ca).Nodup
  sub : ∀ k ∈ keys e.ca, k ∈ whos
  row : ∀ p ∈ e.ca, RSm m b p.2
  kind : KindOk e.ca

theorem len_le : ∀ {l s : List Str}, l.Nodup → (∀ x ∈ l, x ∈ s) → l.length ≤ s.length
  | [], _, _, _ => Nat.zero_le _
  | x :: l, s, hn, hs => by
    rw [List.nodup_cons] at hn
    have hx := hs x List.mem_cons_self
    have := len_le (l := l) (s := s.erase x) hn.2 fun y hy => by
      have hne : y ≠ x := fun e => hn.1 (e ▸ hy)
      exact (List.mem_erase_of_ne hne).mpr (hs y (List.mem_cons_of_mem _ hy))
    rw [List.length_erase_of_mem hx] at this
    have hp : 0 < s.length := List.length_pos_of_mem hx
    rw [List.length_cons]; omega
theorem EOk.len {m b : Nat} {e : Ent} (h : EOk m b e) : e.ca.length ≤ 4 := by
  have : (keys e.ca).length ≤ whos.length := len_le h.nd h.sub
  unfold keys at this
  rwa [List.length_map] at this
theorem hom_of {m b : Nat} {es : List Ent} (h : ∀ e ∈ es, EOk m b e) (k : Str) : (∀ r ∈ rowsOf es k, ∃ x, r = .s x) ∨ (∀ r ∈ rowsOf es k, ∃ l, r = .t l) := by
  cases hk : isTextKey k with
  | true =>
    refine .inl fun r hr => ?_
    obtain ⟨e, he, hm⟩ := mem_rowsOf hr
    exact ((h e he).kind _ hm).1 hk
  | false =>
    refine .inr fun r hr => ?_
    obtain ⟨e, he, hm⟩ := mem_rowsOf hr
    exact ((h e he).kind _ hm).2 hk
theorem rows_ne {es : List Ent} (hn : ∀ e ∈ es, (keys e.ca).Nodup) {k : Str} (hk : k ∈ kys es) : rowsOf es k ≠ [] := by
  obtain ⟨e, he, hm⟩ := List.mem_flatMap.mp hk
  exact rows_of_mem he hm (hn e he)
theorem tok_of {m : Nat} {es : List Ent} (h : ∀ e ∈ es, EOk m 5 e) (hl : es.length ≤ 10) : TOk es where
  len := by omega
  txt := fun e he p => Nat.le_trans ((h e he).txt p).2 (by decide)
  nd := fun e he => (h e he).nd
  cl := fun e he => by have := (h e he).len; omega
  row := fun e he p hp => by
    have := (h e he).row p hp
    cases hr : p.2 with
    | s x => rw [hr] at this; exact Nat.le_trans this.2 (by decide)
    | t l => rw [hr] at this; exact ⟨by have := this.1; omega, fun x hx => Nat.le_trans (this.2 x hx).2 (by decide)⟩
  hom := hom_of h

/-- what told makes of such entries -/
theorem told_ok {m : Nat} {es : List Ent} (h : ∀ e ∈ es, EOk m 5 e) (hl : es.length ≤ 10) : EOk m 50 (toldE es) where
  txt := fun p => by
    have key : ∀ f : Ent → Str, (∀ e ∈ es, Sm m 5 (f e)) → Sm m 50 (cat (es.reverse.map f)) := fun f hf => by
      have := Sm.cat (m := m) (b := 5) (xs := es.reverse.map f) fun x hx => by
        obtain ⟨e, he, rfl⟩ := List.mem_map.mp hx
        exact hf e (List.mem_reverse.mp he)
      rw [List.length_map, List.length_reverse] at this
      exact this.mono (by omega)
    match p with
    | 0 => exact key _ fun e he => (h e he).txt 0
    | 1 => exact key _ fun e he => (h e he).txt 1
    | 2 => exact key _ fun e he => (h e he).txt 2
    | p + 3 => exact key _ fun e he => (h e he).txt 3
  nd := by show (keys (toldCa es)).Nodup; rw [toldCa_keys]; exact nub_nodup _
  sub := fun k hk => by
    have hk' : k ∈ keys (toldCa es) := hk
    rw [toldCa_keys, nub_mem] at hk'
    obtain ⟨e, he, hm⟩ := List.mem_flatMap.mp hk'
    exact (h e he).sub k hm
  row := fun p hp => by
    have hp' : p ∈ toldCa es := hp
    rw [toldCa_eq] at hp'
    obtain ⟨k, hk, rfl⟩ := List.mem_map.mp hp'
    rw [nub_mem] at hk
    have := RSm.join (m := m) (b := 5) (rows_ne (fun e he => (h e he).nd) hk) (fun r hr => by
      obtain ⟨e, he, hm⟩ := mem_rowsOf hr
      exact (h e he).row _ hm) (hom_of h k)
    have hle := rowsOf_len es k
    have hb : (rowsOf es k).length * 5 ≤ 50 := by omega
    show RSm m 50 (joinRows (rowsOf es k))
    cases hj : joinRows (rowsOf es k) with
    | s x => rw [hj] at this; exact Sm.mono this hb
    | t l => rw [hj] at this; exact ⟨this.1, fun x hx => (this.2 x hx).mono hb⟩
  kind := fun p hp => by
    have hp' : p ∈ toldCa es := hp
    rw [toldCa_eq] at hp'
    obtain ⟨k, hk, rfl⟩ := List.mem_map.mp hp'
    rw [nub_mem] at hk
    have hne := rows_ne (fun e he => (h e he).nd) hk
    refine ⟨fun hk => ?_, fun hk => ?_⟩
    · obtain ⟨xs, _, _, e2⟩ := jr_s hne fun r hr => by
        obtain ⟨e, he, hm⟩ := mem_rowsOf hr
        exact ((h e he).kind _ hm).1 hk
      exact ⟨_, e2⟩
    · obtain ⟨xs, _, _, e2⟩ := jr_t hne fun r hr => by
        obtain ⟨e, he, hm⟩ := mem_rowsOf hr
        exact ((h e he).kind _ hm).2 hk
      exact ⟨_, e2⟩
end Mine

/-! part 34 -/
namespace Mine
set_option maxRecDepth 100000

theorem joinT_one (l : List Str) : joinT [l] = l := by
  refine List.ext_getElem (by rw [joinT_len]; rfl) fun p h1 h2 => ?_
  rw [joinT_get]
  show cat [l.getD p Str.empty] = _
  rw [cat_one, List.getD_eq_getElem?_getD, List.getElem?_eq_getElem h2]; rfl
theorem told_one {m b : Nat} {e : Ent} (h : EOk m b e) : toldE [e] = e := by
  obtain ⟨a1, a2, a3, a4, ca⟩ := e
  have hca : toldCa [⟨a1, a2, a3, a4, ca⟩] = ca := by
    rw [toldCa_eq]
    have hk : nub (kys [⟨a1, a2, a3, a4, ca⟩]) = keys ca := by
      have : kys [⟨a1, a2, a3, a4, ca⟩] = keys ca := by unfold kys; simp
      rw [this]; exact nub_self h.nd
    rw [hk]
    unfold keys
    rw [List.map_map]
    refine (List.map_congr_left fun p hp => ?_).trans (List.map_id ca)
    show (p.1, joinRows (rowsOf [⟨a1, a2, a3, a4, ca⟩] p.1)) = p
    have hr : rowsOf [⟨a1, a2, a3, a4, ca⟩] p.1 = [p.2] := by
      unfold rowsOf
      have : alook ca p.1 = some p.2 := alook_mem h.nd (by exact hp)
      simp [this]
    rw [hr]
    obtain ⟨k, r⟩ := p
    cases r with
    | s x => show (k, Row.s (cat [x])) = _; rw [cat_one]
    | t l => show (k, Row.t (joinT [l])) = _; rw [joinT_one]
  unfold toldE
  rw [hca]
  show (⟨cat [a1], cat [a2], cat [a3], cat [a4], ca⟩ : Ent) = _
  rw [cat_one, cat_one, cat_one, cat_one]

/-- a reading of rows under which two joined are the join of both -/
def FOk (f : Row → D) : Prop := ∀ (m : Nat) (ra rb : List Row), ra ≠ [] → rb ≠ [] → RSm m 50 (joinRows ra) → RSm m 50 (joinRows rb) → ((∀ r ∈ ra ++ rb, ∃ x, r = .s x) ∨ (∀ r ∈ ra ++ rb, ∃ l, r = .t l)) →
  CombOk (f (joinRows ra)) (f (joinRows rb)) ∧ combD (f (joinRows ra)) (f (joinRows rb)) = f (joinRows (ra ++ rb))

theorem fok_d : FOk Row.d := by
  intro m ra rb ha hb h1 h2 hom
  rcases hom with hs | ht
  · obtain ⟨x, y, e1, e2, e3⟩ := comb_s ha hb hs
    rw [e1] at h1 ⊢; rw [e2] at h2 ⊢; rw [e3]
    exact ⟨.str x y (by have := h1.2; have := h2.2; omega), rfl⟩
  · obtain ⟨x, y, e1, e2, e3⟩ := comb_t ha hb ht
    rw [e1] at h1 ⊢; rw [e2] at h2 ⊢; rw [e3]
    refine ⟨.tup _ _ (fun a ha b hb => ?_) (by rw [List.length_map]; have := h1.1; omega), ?_⟩
    · obtain ⟨a', ha', rfl⟩ := List.mem_map.mp ha
      obtain ⟨b', hb', rfl⟩ := List.mem_map.mp hb
      exact .str _ _ (by have := (h1.2 a' ha').2; have := (h2.2 b' hb').2; omega)
    · show D.tup (List.zipWith addD (y.map D.str) (x.map D.str)) = D.tup ((List.zipWith (fun y x => y ++ x) y x).map D.str)
      rw [List.zipWith_map, List.map_zipWith]; rfl
theorem fok_w (w : Nat → Int) : FOk (Row.w w) := by
  intro m ra rb ha hb h1 h2 hom
  rcases hom with hs | ht
  · obtain ⟨x, y, e1, e2, e3⟩ := comb_s ha hb hs
    rw [e1, e2, e3]
    exact ⟨.int _ _, by show D.int (wt w x + wt w y) = D.int (wt w (x ++ y)); rw [wt_app]⟩
  · obtain ⟨x, y, e1, e2, e3⟩ := comb_t ha hb ht
    rw [e1] at h1
    rw [e1, e2, e3]
    refine ⟨.tup _ _ (fun a ha b hb => ?_) (by rw [List.length_map]; have := h1.1; omega), ?_⟩
    · obtain ⟨a', ha', rfl⟩ := List.mem_map.mp ha
      obtain ⟨b', hb', rfl⟩ := List.mem_map.mp hb
      exact .int _ _
    · show D.tup (List.zipWith addD (y.map fun x => D.int (wt w x)) (x.map fun x => D.int (wt w x))) = D.tup ((List.zipWith (fun y x => y ++ x) y x).map fun x => D.int (wt w x))
      rw [List.zipWith_map, List.map_zipWith]
      congr 2
      funext a b
      show D.int (wt w a + wt w b) = D.int (wt w (a ++ b))
      rw [wt_app]

theorem amap_told (f : Row → D) (es : List Ent) : amap f (toldCa es) = (nub (kys es)).map fun k => (k, f (joinRows (rowsOf es k))) := by rw [toldCa_eq]; unfold amap; rw [List.map_map]; rfl

theorem mg_of {f : Row → D} (hf : FOk f) {m : Nat} {A B : List Ent} (hA : ∀ e ∈ A, EOk m 5 e) (hB : ∀ e ∈ B, EOk m 5 e) (hl : (A ++ B).length ≤ 10) : Mg f (toldE A).ca (toldE B).ca (toldE (A ++ B)).ca := by
  rw [List.length_append] at hl
  have oA := told_ok hA (by omega)
  have oB := told_ok hB (by omega)
  have hAB : ∀ e ∈ A ++ B, EOk m 5 e := fun e he => (List.mem_append.mp he).elim (hA e) (hB e)
  have comb : ∀ k, k ∈ kys A → k ∈ kys B → CombOk (f (joinRows (rowsOf A k))) (f (joinRows (rowsOf B k))) ∧ combD (f (joinRows (rowsOf A k))) (f (joinRows (rowsOf B k))) = f (joinRows (rowsOf (A ++ B) k)) := by
    intro k h1 h2
    rw [rowsOf_app]
    have hom := hom_of hAB k
    rw [rowsOf_app] at hom
    have r1 : (k, joinRows (rowsOf A k)) ∈ (toldE A).ca := by show _ ∈ toldCa A; rw [toldCa_eq]; exact List.mem_map.mpr ⟨k, (nub_mem _).mpr h1, rfl⟩
    have r2 : (k, joinRows (rowsOf B k)) ∈ (toldE B).ca := by show _ ∈ toldCa B; rw [toldCa_eq]; exact List.mem_map.mpr ⟨k, (nub_mem _).mpr h2, rfl⟩
    exact hf m _ _ (rows_ne (fun e he => (hA e he).nd) h1) (rows_ne (fun e he => (hB e he).nd) h2) (oA.row _ r1) (oB.row _ r2) hom
  have hnB := nub_nodup (kys B)
  refine ⟨?_, ?_, fun i k d d0 hd hg => ?_, ?_⟩
  · rw [keys_amap]; exact oA.nd
  · unfold amap; rw [List.length_map, List.length_map]; have := oA.len; have := oB.len; omega
  · show CombOk d0 d
    change (amap f (toldCa B))[i]? = some (k, d) at hd
    change dget (mergeD (amap f (toldCa A)) ((amap f (toldCa B)).take i)) k = some d0 at hg
    rw [amap_told, List.getElem?_map] at hd
    obtain ⟨k', hk', he⟩ := Option.map_eq_some_iff.mp hd
    cases he
    have hlt := (List.getElem?_eq_some_iff.mp hk').1
    rw [amap_told, amap_told, merge_closed (fun k => f (joinRows (rowsOf A k))) (fun k => f (joinRows (rowsOf B k))) hnB i (by omega), dget_map] at hg
    have hnew : k ∉ (nub (kys B)).take i := fun hm => by
      obtain ⟨j, hj, he⟩ := List.mem_iff_getElem.mp hm
      have hj' : j < i := by rw [List.length_take] at hj; omega
      rw [List.getElem_take] at he
      have e1 : (nub (kys B))[j]? = some k := by rw [List.getElem?_eq_getElem (by omega), he]
      have := (List.getElem?_inj (by omega) hnB).mp (e1.trans hk'.symm)
      omega
    split at hg
    · rename_i hin
      have hA' : k ∈ nub (kys A) := by
        rcases List.mem_append.mp hin with q | q
        · exact q
        · exact absurd (List.mem_filter.mp q).1 hnew
      have hv : mval (fun k => f (joinRows (rowsOf A k))) (fun k => f (joinRows (rowsOf B k))) (nub (kys A)) ((nub (kys B)).take i) k = f (joinRows (rowsOf A k)) := by unfold mval; rw [if_pos hA', if_neg hnew]
      rw [hv] at hg
      cases hg
      exact (comb k ((nub_mem _).mp hA') ((nub_mem _).mp (List.mem_of_getElem? hk'))).1
    · cases hg
  · show mergeD (amap f (toldCa A)) (amap f (toldCa B)) = amap f (toldCa (A ++ B))
    have h := merge_closed (fun k => f (joinRows (rowsOf A k))) (fun k => f (joinRows (rowsOf B k))) (NA := nub (kys A)) hnB (nub (kys B)).length (Nat.le_refl _)
    rw [List.take_of_length_le (by rw [List.length_map]; exact Nat.le_refl _), List.take_length] at h
    rw [amap_told, amap_told, amap_told, h, kys_app, nub_app]
    refine List.map_congr_left fun k hk => ?_
    congr 1
    unfold mval
    by_cases h1 : k ∈ nub (kys A)
    · rw [if_pos h1]
      by_cases h2 : k ∈ nub (kys B)
      · rw [if_pos h2]; exact (comb k ((nub_mem _).mp h1) ((nub_mem _).mp h2)).2
      · rw [if_neg h2, rowsOf_app, rowsOf_nil (es := B) (fun q => h2 ((nub_mem _).mpr q)), List.append_nil]
    · rw [if_neg h1, rowsOf_app, rowsOf_nil (es := A) (fun q => h1 ((nub_mem _).mpr q)), List.nil_append]

theorem txt_of {A B : List Ent} (p : Nat) : (toldE (A ++ B)).at p = (toldE B).at p ++ (toldE A).at p := by
  have key : ∀ f : Ent → Str, cat ((A ++ B).reverse.map f) = cat (B.reverse.map f) ++ cat (A.reverse.map f) := fun f => by rw [List.reverse_append, List.map_append, cat_app]
  match p with
  | 0 => exact key _
  | 1 => exact key _
  | 2 => exact key _
  | p + 3 => exact key _

/-- the weights of the text callers -/
def vOf (w : Nat → Int) (o : Option Row) : Int := (o.bind (wOf w)).getD 0
theorem calls_sum (w : Nat → Int) (ca : List (Str × Row)) : ((callsL w ca).map (·.2)).sum = (whos2.map fun who => vOf w (alook ca who)).sum := by
  unfold callsL
  have key : ∀ l : List Str, ((l.filterMap fun who => ((alook ca who).bind (wOf w)).map fun i => (who, i)).map (·.2)).sum = (l.map fun who => vOf w (alook ca who)).sum := by
    intro l
    induction l with
    | nil => rfl
    | cons a l ih =>
      rw [List.map_cons, List.sum_cons, ← ih, List.filterMap_cons]
      unfold vOf
      cases h : (alook ca a).bind (wOf w) with
      | none => simp [h]
      | some i => simp [h]
  exact key whos2
theorem weight_sum (w : Nat → Int) (es : List Ent) : (weightL w es).sum = (es.map fun e => (whos2.map fun who => vOf w (alook e.ca who)).sum).sum := by
  have key : ∀ (e : Ent) (l : List Str), (l.filterMap fun who => (alook e.ca who).bind (wOf w)).sum = (l.map fun who => vOf w (alook e.ca who)).sum := by
    intro e l
    induction l with
    | nil => rfl
    | cons a l ih =>
      rw [List.map_cons, List.sum_cons, ← ih, List.filterMap_cons]
      unfold vOf
      cases h : (alook e.ca a).bind (wOf w) with
      | none => simp
      | some i => simp
  induction es with
  | nil => rfl
  | cons e es ih =>
    rw [List.map_cons, List.sum_cons, ← ih, ← key e]
    show ((whos2.filterMap fun who => (alook e.ca who).bind (wOf w)) ++ weightL w es).sum = _
    rw [List.sum_append]
theorem wt_cat (w : Nat → Int) : ∀ xs : List Str, wt w (cat xs) = (xs.map (wt w)).sum
  | [] => by rw [cat_nil]; rfl
  | x :: xs => by rw [cat_cons, wt_app, wt_cat w xs]; rfl
theorem told_v {m : Nat} (w : Nat → Int) {es : List Ent} (h : ∀ e ∈ es, EOk m 5 e) {who : Str} (hw : who ∈ whos2) : vOf w (alook (toldE es).ca who) = (es.map fun e => vOf w (alook e.ca who)).sum := by
  have ht : isTextKey who = true := List.contains_iff_mem.mpr hw
  have hrows : ∀ es : List Ent, (∀ e ∈ es, EOk m 5 e) → ∀ xs : List Str, rowsOf es who = xs.map .s → (es.map fun e => vOf w (alook e.ca who)).sum = (xs.map (wt w)).sum := by
    intro es
    induction es with
    | nil =>
      intro _ xs hx
      have : xs = [] := by
        have h0 : rowsOf [] who = [] := rfl
        rw [h0] at hx
        cases xs with
        | nil => rfl
        | cons a r => cases hx
      rw [this]; rfl
    | cons e es ih =>
      intro h xs hx
      rw [List.map_cons, List.sum_cons]
      cases hl : alook e.ca who with
      | none =>
        have hr : rowsOf (e :: es) who = rowsOf es who := by unfold rowsOf; rw [List.filterMap_cons, hl]
        rw [hr] at hx
        rw [ih (fun e he => h e (List.mem_cons_of_mem _ he)) xs hx]
        show (0 : Int) + _ = _
        rw [Int.zero_add]
      | some r =>
        have hr : rowsOf (e :: es) who = r :: rowsOf es who := by unfold rowsOf; rw [List.filterMap_cons, hl]
        rw [hr] at hx
        cases xs with
        | nil => cases hx
        | cons x xs =>
          rw [List.map_cons] at hx
          injection hx with h1 h2
          subst h1
          rw [ih (fun e he => h e (List.mem_cons_of_mem _ he)) xs h2, List.map_cons, List.sum_cons]; rfl
  show vOf w (alook (toldCa es) who) = _
  rw [toldCa_eq, alook_map _ _ _ (nub_nodup _)]
  split
  · rename_i hin
    have hne := rows_ne (fun e he => (h e he).nd) ((nub_mem _).mp hin)
    obtain ⟨xs, e1, _, e2⟩ := jr_s hne fun r hr => by
      obtain ⟨e, he, hm⟩ := mem_rowsOf hr
      exact ((h e he).kind _ hm).1 ht
    rw [e2, hrows es h xs e1]
    show wt w (cat xs) = _
    rw [wt_cat]
  · rename_i hin
    have := rowsOf_nil (es := es) (k := who) fun q => hin ((nub_mem _).mpr q)
    rw [hrows es h [] this]; rfl
theorem sum_swap (f : Ent → Str → Int) : ∀ (es : List Ent) (l : List Str), (l.map fun who => (es.map fun e => f e who).sum).sum = (es.map fun e => (l.map fun who => f e who).sum).sum
  | [], l => by
    induction l with
    | nil => rfl
    | cons a l ih => rw [List.map_cons, List.sum_cons, ih]; rfl
  | e :: es, l => by
    rw [List.map_cons, List.sum_cons, ← sum_swap f es l]
    induction l with
    | nil => rfl
    | cons a l ih =>
      rw [List.map_cons, List.sum_cons, ih, List.map_cons, List.sum_cons, List.map_cons, List.sum_cons, List.map_cons, List.sum_cons]
      omega
theorem sums_of {m : Nat} (w : Nat → Int) {es : List Ent} (h : ∀ e ∈ es, EOk m 5 e) : ((callsL w (toldE es).ca).map (·.2)).sum = (weightL w es).sum := by
  rw [calls_sum, weight_sum, ← sum_swap]
  congr 1
  exact List.map_congr_left fun who hw => told_v w h hw
end Mine

/-! part 35 -/
namespace Mine
set_option maxRecDepth 100000

theorem letter_eq {k : Nat} (h : k < 10) : letter k = ⟨#[97 + k]⟩ := by
  match k, h with
  | 0, _ => decide
  | 1, _ => decide
  | 2, _ => decide
  | 3, _ => decide
  | 4, _ => decide
  | 5, _ => decide
  | 6, _ => decide
  | 7, _ => decide
  | 8, _ => decide
  | 9, _ => decide
theorem sm_mul {m c b : Nat} {q : Int} (h1 : 97 ≤ c) (h2 : c < 97 + m) (hq : q ≤ b) : Sm m b (Txt.mul ⟨#[c]⟩ q) := by
  have e := mul_one_list c q
  refine ⟨fun x hx => ?_, ?_⟩
  · rw [e] at hx
    rw [List.eq_of_mem_replicate hx]; exact ⟨h1, h2⟩
  · have : (Txt.mul ⟨#[c]⟩ q).length = q.toNat := by
      show (Txt.mul ⟨#[c]⟩ q).cps.size = _
      rw [← Array.length_toList, e, List.length_replicate]
    omega
theorem keys_aput {α : Type} (l : List (Str × α)) (k : Str) (a : α) : keys (aput l k a) = if k ∈ keys l then keys l else keys l ++ [k] := by
  by_cases h : k ∈ keys l
  · rw [if_pos h]
    unfold aput
    obtain ⟨p, hp, hk⟩ := List.mem_map.mp h
    rw [if_pos (List.any_eq_true.mpr ⟨p, hp, by simpa using hk⟩)]
    unfold keys
    rw [List.map_map]
    refine List.map_congr_left fun q _ => ?_
    show (if q.1 = k then (q.1, a) else q).1 = q.1
    split <;> rfl
  · rw [if_neg h, aput_new h]; unfold keys; rw [List.map_append]; rfl
theorem mem_aput {α : Type} {l : List (Str × α)} {k : Str} {a : α} {p : Str × α} (h : p ∈ aput l k a) : p ∈ l ∨ p = (k, a) := by
  unfold aput at h
  split at h
  · obtain ⟨q, hq, rfl⟩ := List.mem_map.mp h
    by_cases hk : q.1 = k
    · right; rw [if_pos hk, hk]
    · left; rw [if_neg hk]; exact hq
  · rcases List.mem_append.mp h with h | h
    · exact .inl h
    · exact .inr (List.mem_singleton.mp h)

structure CaOk (m : Nat) (ca : List (Str × Row)) : Prop where
  nd : (keys ca).Nodup
  sub : ∀ k ∈ keys ca, k ∈ whos
  row : ∀ p ∈ ca, RSm m 5 p.2
  kind : KindOk ca
theorem CaOk.put {m : Nat} {ca : List (Str × Row)} (h : CaOk m ca) {k : Str} {r : Row} (hk : k ∈ whos) (hr : RSm m 5 r) (hkind : (isTextKey k = true → ∃ x, r = .s x) ∧ (isTextKey k = false → ∃ l, r = .t l)) : CaOk m (aput ca k r) where
  nd := by
    rw [keys_aput]; split
    · exact h.nd
    · rename_i hn
      rw [List.nodup_append]
      refine ⟨h.nd, by simp, fun x hx y hy => ?_⟩
      rw [List.mem_singleton.mp hy]
      rintro rfl
      exact hn hx
  sub := fun x hx => by
    rw [keys_aput] at hx
    split at hx
    · exact h.sub x hx
    · rcases List.mem_append.mp hx with q | q
      · exact h.sub x q
      · rw [List.mem_singleton.mp q]; exact hk
  row := fun p hp => by
    rcases mem_aput hp with q | rfl
    · exact h.row p q
    · exact hr
  kind := fun p hp => by
    rcases mem_aput hp with q | rfl
    · exact h.kind p q
    · exact hkind

theorem leaf_ca {m c : Nat} (h1 : 97 ≤ c) (h2 : c < 97 + m) (n : Int) : ∀ i, CaOk m (leafCa ⟨#[c]⟩ n i)
  | 0 => ⟨List.nodup_nil, (fun _ h => nomatch h), (fun _ h => nomatch h), (fun _ h => nomatch h)⟩
  | i + 1 => by
    have ih := leaf_ca h1 h2 n i
    rw [leafCa_succ]
    unfold leafStep
    split
    · have hm1 : muchOf n i < 6 := fmod_hi _ (by decide)
      have hw0 : 0 ≤ whichOf n i := fmod_lo _ (by decide)
      have hw1 : whichOf n i < 4 := fmod_hi _ (by decide)
      have hwho : (whos.getD (whichOf n i).toNat Str.empty ∈ whos) ∧ ((whichOf n i).fmod 2 ≠ 0 → isTextKey (whos.getD (whichOf n i).toNat Str.empty) = true) ∧ ((whichOf n i).fmod 2 = 0 → isTextKey (whos.getD (whichOf n i).toNat Str.empty) = false) := by
        have e : whichOf n i = ((whichOf n i).toNat : Int) := by omega
        have h4 : (whichOf n i).toNat < 4 := by omega
        rw [e]
        simp only [Int.toNat_natCast]
        generalize (whichOf n i).toNat = k at h4
        match k, h4 with
        | 0, _ => exact ⟨by decide, by decide, by decide⟩
        | 1, _ => exact ⟨by decide, by decide, by decide⟩
        | 2, _ => exact ⟨by decide, by decide, by decide⟩
        | 3, _ => exact ⟨by decide, by decide, by decide⟩
      refine ih.put hwho.1 ?_ ?_
      · unfold leafRow
        split
        · exact sm_mul h1 h2 (by omega)
        · refine ⟨by rw [List.length_map, List.length_range]; omega, fun x hx => ?_⟩
          obtain ⟨p, _, rfl⟩ := List.mem_map.mp hx
          have q1 := fmod_hi (n + (p : Nat)) (b := 2) (by decide)
          exact sm_mul h1 h2 (by omega)
      · unfold leafRow
        by_cases hw : (whichOf n i).fmod 2 = 0
        · rw [if_neg (by simpa using hw)]
          refine ⟨fun h => ?_, fun _ => ⟨_, rfl⟩⟩
          rw [hwho.2.2 hw] at h; cases h
        · rw [if_pos hw]
          refine ⟨fun _ => ⟨_, rfl⟩, fun h => ?_⟩
          rw [hwho.2.1 hw] at h; cases h
    · exact ih
theorem leaf_ok {m k : Nat} (hk : k < m) (hm : m ≤ 10) (n : Int) : EOk m 5 (leafE n (letter k)) := by
  rw [letter_eq (by omega)]
  have h1 : 97 ≤ 97 + k := by omega
  have h2 : 97 + k < 97 + m := by omega
  have ca := leaf_ca h1 h2 n 4
  refine ⟨fun p => ?_, ca.nd, ca.sub, ca.row, ca.kind⟩
  match p with
  | 0 => exact sm_mul h1 h2 (by have := fmod_hi n (b := 3) (by decide); omega)
  | 1 => exact sm_mul h1 h2 (by have := fmod_hi (n + 1) (b := 3) (by decide); omega)
  | 2 => exact sm_mul h1 h2 (by have := fmod_hi (n.fdiv 3) (b := 3) (by decide); omega)
  | p + 3 => exact sm_mul h1 h2 (by have := fmod_hi (n.fdiv 9) (b := 3) (by decide); omega)

theorem seg_mem {es : List Ent} {i j : Nat} {e : Ent} (h : e ∈ seg es i j) : e ∈ es := List.mem_of_mem_drop (List.mem_of_mem_take h)
theorem seg_len (es : List Ent) (i j : Nat) : (seg es i j).length ≤ es.length := by unfold seg; rw [List.length_take, List.length_drop]; omega
theorem seg_app (es : List Ent) {i l j : Nat} (h1 : i ≤ l) (h2 : l ≤ j) : seg es i j = seg es i l ++ seg es l j := by
  unfold seg
  have e : j - i = (l - i) + (j - l) := by omega
  rw [e, List.take_add, List.drop_drop]
  congr 3
  omega
theorem seg_one {es : List Ent} {k : Nat} {e : Ent} (h : es[k]? = some e) : seg es k (k + 1) = [e] := by
  unfold seg
  have hlt := (List.getElem?_eq_some_iff.mp h).1
  rw [show k + 1 - k = 1 by omega, List.drop_eq_getElem_cons hlt, List.take_succ_cons, List.take_zero, (List.getElem?_eq_some_iff.mp h).2]

/-- everything that the walk asks of the numbers -/
theorem law_facts (s : List Int) (hlo : 2 ≤ s.length) (hhi : s.length ≤ 10) : ∃ es W w, LG s es W w := by
  let es := (List.range s.length).map fun k => leafE (s.getD k 0) (letter k)
  let W0 : List (Str × D) := (List.range s.length).map fun k => (letter k, D.int (s.getD k 0))
  let w : Nat → Int := fun c => s.getD (c - 97) 0
  have hkW : keys W0 = (List.range s.length).map letter := by show List.map _ (List.map _ _) = _; rw [List.map_map]; rfl
  have hnW : (keys W0).Nodup := by
    rw [hkW]
    unfold List.Nodup
    rw [List.pairwise_map]
    refine List.Pairwise.imp_of_mem ?_ List.nodup_range
    intro a b ha hb hab e
    rw [letter_eq (by have := List.mem_range.mp ha; omega), letter_eq (by have := List.mem_range.mp hb; omega)] at e
    injection e with e
    have : (#[97 + a] : Array Nat).toList = (#[97 + b] : Array Nat).toList := by rw [e]
    have : 97 + a = 97 + b := by simpa using this
    omega
  have hW : puts W0 = W0 := puts_nodup hnW
  have hget : ∀ c, 97 ≤ c → c < 97 + s.length → dget (puts W0) ⟨#[c]⟩ = some (.int (w c)) := fun c h1 h2 => by
    obtain ⟨k, rfl⟩ : ∃ k, c = 97 + k := ⟨c - 97, by omega⟩
    rw [hW, dget_eq, ← letter_eq (k := k) (by omega)]
    refine alook_get hnW (i := k) ?_
    show (List.map _ _)[k]? = _
    rw [List.getElem?_map, List.getElem?_range (by omega)]
    show some (letter k, D.int (s.getD k 0)) = some (letter k, D.int (s.getD (97 + k - 97) 0))
    rw [show 97 + k - 97 = k by omega]
  have hes : ∀ e ∈ es, EOk s.length 5 e := fun e he => by
    obtain ⟨k, hk, rfl⟩ := List.mem_map.mp he
    exact leaf_ok (List.mem_range.mp hk) hhi _
  have hel : es.length = s.length := by show (List.map _ _).length = _; rw [List.length_map, List.length_range]
  have hsg : ∀ i j, ∀ e ∈ seg es i j, EOk s.length 5 e := fun i j e he => hes e (seg_mem he)
  have hsl : ∀ i j, (seg es i j).length ≤ 10 := fun i j => by have := seg_len es i j; omega
  have hcov : ∀ b x, Sm s.length b x → b ≤ 1000 → Cov (puts W0) w x := fun b x h hb => ⟨fun c hc => hget c (h.1 c hc).1 (h.1 c hc).2, Nat.le_trans h.2 hb⟩
  refine ⟨es, puts W0, w, { es_eq := rfl, W_eq := rfl, lo := hlo, hi := hhi, tok := fun i j => tok_of (hsg i j) (hsl i j), cov := fun i j h1 h2 => ?_, one := fun k e he => ?_, mt := fun i l j h1 h2 h3 => ?_, mw := fun i l j h1 h2 h3 => ?_, txt := fun i l j h1 h2 h3 p => ?_, kE := fun e he who hw r hr => ?_, kT := fun who hw r hr => ?_, sums := sums_of w hes }⟩
  · have ok := told_ok (hsg i j) (hsl i j)
    refine ⟨hcov 50 _ (ok.txt 0) (by decide), hcov 50 _ (ok.txt 1) (by decide), hcov 50 _ (ok.txt 2) (by decide), hcov 50 _ (ok.txt 3) (by decide), fun p hp => ?_, ok.nd, by have := ok.len; omega⟩
    have := ok.row p hp
    cases hr : p.2 with
    | s x => rw [hr] at this; exact hcov 50 _ this (by decide)
    | t l => rw [hr] at this; exact ⟨fun x hx => hcov 50 _ (this.2 x hx) (by decide), by have := this.1; omega⟩
  · rw [seg_one he]; exact told_one (hes e (List.mem_of_getElem? he))
  · rw [seg_app es (Nat.le_of_lt h1) (Nat.le_of_lt h2)]
    refine mg_of fok_d (hsg i l) (hsg l j) ?_
    rw [← seg_app es (Nat.le_of_lt h1) (Nat.le_of_lt h2)]; exact hsl i j
  · rw [seg_app es (Nat.le_of_lt h1) (Nat.le_of_lt h2)]
    refine mg_of (fok_w w) (hsg i l) (hsg l j) ?_
    rw [← seg_app es (Nat.le_of_lt h1) (Nat.le_of_lt h2)]; exact hsl i j
  · rw [seg_app es (Nat.le_of_lt h1) (Nat.le_of_lt h2)]
    refine ⟨txt_of p, ?_⟩
    have q1 := ((told_ok (hsg l j) (hsl l j)).txt p).2
    have q2 := ((told_ok (hsg i l) (hsl i l)).txt p).2
    omega
  · have ok := hes e he
    obtain ⟨x, rfl⟩ := (ok.kind _ (alook_some hr)).1 (List.contains_iff_mem.mpr hw)
    exact ⟨x, rfl, hcov 5 x (ok.row _ (alook_some hr)) (by decide)⟩
  · have ok := told_ok hes (by omega)
    exact (ok.kind _ (alook_some hr)).1 (List.contains_iff_mem.mpr hw)
end Mine

/-! part 36 -/
namespace Mine
set_option maxRecDepth 100000

def bltNames : List Str := [Str.ofString "len", Str.ofString "range", Str.ofString "sum", Str.ofString "min", Str.ofString "tuple", Str.ofString "list", Str.ofString "str", Str.ofString "isinstance", Str.ofString "zip"]

/-- what the top gives -/
theorem boot {q : Program} {loose : List Str} {mean : ExcName → Option Value} {mg mb : Str → Option Value} {h : Heap} (T : Top q loose mean mg mb h) (p : Program) (w : World)
    (hrec : ∀ k, k ∈ [1, 2, 3, 5, 6, 7, 8, 9] → ∃ pos, (⟨fname k, fpar k, fbody k, fscope k, pos⟩ : DefRec) ∈ recsOf q) (hfree : ∀ x ∈ bltNames, mg x = none) :
    ∃ C : Cx, C.prog = p ∧ C.w = w ∧ C.h = h ∧ h.TableAt C.cc C.P #[] ∧ C.mg = mg ∧ Glob C ∧ ∃ a, mg (fname 9) = some (.ref a) ∧ FunAt C a (fname 9) (fpar 9) (fbody 9) (fscope 9) := by
  obtain ⟨pos2, hr2⟩ := hrec 2 (by simp)
  obtain ⟨a2, o2, fd2, c2, P, h1, h2, h3, h4, hcode, htab⟩ := T.tab _ hr2
  let C : Cx := { prog := p, w := w, h := h, P := P, mg := mg, mb := mb, Tab := fun h => ∃ ps, h.get? P = some { cls := .none, data := .fields ps } ∧ TriplesOk ps.toList, cc := c2 }
  have hPo := htab.2
  have nsP : ∀ {a : Addr} {m : Str → Option Value}, h.Ns a m → a ≠ P := fun {a m} hn e => by
    obtain ⟨o, es, ep, ho, hd, _⟩ := hn
    rw [e, hPo] at ho; cases ho; cases hd
  have K : Cok C := by
    refine ⟨fun h h' ⟨ps, hp, ht⟩ hk => ⟨ps, hk _ hp, ht⟩, fun h ⟨ps, hp, _⟩ => ⟨_, hp⟩, T.g, T.b, T.nolimit, nsP T.g, nsP T.b, ?_, ?_, hcode, htab, fun h => Iff.rfl⟩
    · obtain ⟨mc, hn, _⟩ := T.nolimit; exact nsP hn
    · obtain ⟨bm, ob, b1, b2, b3, b4, b5, b6⟩ := T.bmain
      exact ⟨bm, ob, T.g, b1, b2, b3, b4, b5, b6⟩
  have fn : ∀ k, k ∈ [1, 2, 3, 5, 6, 7, 8, 9] → ∃ a, mg (fname k) = some (.ref a) ∧ FunAt C a (fname k) (fpar k) (fbody k) (fscope k) := by
    intro k hk
    obtain ⟨pos, hr⟩ := hrec k hk
    obtain ⟨a, o, pm, code, doc, e1, e2, e3, e4⟩ := T.fn _ hr
    obtain ⟨c, oc, vs, t, rfl, hc1, hc2, hc3⟩ := id e4
    refine ⟨a, e1, o, pm, c, doc, e2, fun e => ?_, e3, fun e => ?_, e4, fun hz => ?_⟩
    · change a = P at e
      rw [e, hPo] at e2; cases e2; cases e3
    · change c = P at e
      rw [e, hPo] at hc1; cases hc1; cases hc2; simp at hc3
    · by_cases hk2 : k = 2
      · subst hk2
        change mg (fname 2) = some (.ref a2) at h1
        change mg (fname 2) = some (.ref a) at e1
        rw [h1] at e1; cases e1
        change h.get? a2 = some o at e2
        rw [h2] at e2; cases e2
        rw [h3] at e3; cases e3
        cases h4
        rfl
      · exfalso
        have : (fscope k).names.lookup (Str.ofString "zip") = none := by
          simp only [List.mem_cons, List.not_mem_nil, or_false] at hk
          rcases hk with rfl | rfl | rfl | rfl | rfl | rfl | rfl | rfl
          · decide +kernel
          · exact absurd rfl hk2
          · decide +kernel
          · decide +kernel
          · decide +kernel
          · decide +kernel
          · decide +kernel
          · decide +kernel
        rw [this] at hz; cases hz
  have bi : ∀ x f, x ∈ bltNames → x ≠ "__name__" → bootBuiltins x = some f → BltIs C x f := fun x f hx hn hb => ⟨hfree x hx, (T.builtins x hn).trans hb⟩
  refine ⟨C, rfl, rfl, rfl, htab, rfl, ⟨K, ?_, ?_, ?_, ?_, ?_, ?_, ?_, ?_, ?_, fun k hk => fn k ?_⟩, fn 9 (by simp)⟩
  · exact bi _ _ (by decide) (by decide) (by rfl)
  · exact bi _ _ (by decide) (by decide) (by rfl)
  · exact bi _ _ (by decide) (by decide) (by rfl)
  · exact bi _ _ (by decide) (by decide) (by rfl)
  · exact bi _ _ (by decide) (by decide) (by rfl)
  · exact bi _ _ (by decide) (by decide) (by rfl)
  · exact bi _ _ (by decide) (by decide) (by rfl)
  · exact bi _ _ (by decide) (by decide) (by rfl)
  · exact bi _ _ (by decide) (by decide) (by rfl)
  · simp only [List.mem_cons, List.not_mem_nil, or_false] at hk ⊢
    omega

theorem ints_rep {C : Cx} {G : GMap} : ∀ {vs : List Value} {ns : List Int}, IntsAre vs ns → RepL C G vs (ns.map .int)
  | _, _, .nil => .nil
  | _, _, .cons _ _ r => .cons (.int _ _) (ints_rep r)

/-- the call of the law -/
theorem walk_main {q : Program} {loose : List Str} {mean : ExcName → Option Value} {mg mb : Str → Option Value} {s₁ : Shared} (T : Top q loose mean mg mb s₁.heap) (p : Program) (w : World)
    (hrec : ∀ k, k ∈ [1, 2, 3, 5, 6, 7, 8, 9] → ∃ pos, (⟨fname k, fpar k, fbody k, fscope k, pos⟩ : DefRec) ∈ recsOf q) (hfree : ∀ x ∈ bltNames, mg x = none)
    {fa a : Addr} (hmg : mg (fname 9) = some (.ref fa)) (hg : s₁.gens = #[]) {vs : List Value} {ns : List Int} (hL : s₁.heap.IsList a vs.toArray) (hI : IntsAre vs ns) (hn : ns.length ≤ 63) (E : Value → Shared → Prop) :
    wpAny (model p w) callerA (call (.ref fa) [.ref a]) (fun v s' => v = .bool true ∧ OldK s₁.heap s'.heap ∧ s'.os = s₁.os ∧ AllBare s'.gens) E s₁ := by
  obtain ⟨C, rfl, rfl, hCh, htab, rfl, H, fa', hmg', hf⟩ := boot T p w hrec hfree
  rw [hmg] at hmg'; cases hmg'
  obtain ⟨es, W, w', F⟩ := law_facts ((ns.length : Int) :: 5 :: ns.take 8) (by simp) (by simp; omega)
  have hfn : FnOk C 3 (.ref fa) [.lst (ns.map .int)] (.bool true) := fn_user1 (x1 := Str.ofString "script") H.K hf (fun _ _ _ _ => rfl) (nofree (by decide +kernel)) (.inl (by rfl)) rfl rfl rfl (law_body H rfl hn F)
  have B : Base C (fun b => if b = C.P then none else s₁.heap.get? b) s₁ := by
    refine ⟨fun b o e => ?_, fun b o hb e => ?_, if_pos rfl, (H.K.tabIs _).mpr ⟨#[], htab.2, ?_⟩, .of_eq hg⟩
    · split at e
      · cases e
      · exact e
    · rw [if_neg hb, ← hCh]; exact e
    · have hc := H.K.code0
      obtain ⟨o, vs', file, tf, flags, tg, inF, text, tt, op, ho, hd, r1, r2, r3, r4, r5, hop, hpd, htr, hne⟩ := hc
      exact htr
  obtain ⟨oL, hoL, hcL, nL, hdL⟩ := hL
  have haP : a ≠ C.P := fun e => by rw [e, htab.2] at hoL; cases hoL; cases hdL
  have hr : RepL C (fun b => if b = C.P then none else s₁.heap.get? b) [Value.ref a] [.lst (ns.map .int)] := .cons (.lst (by show (if a = C.P then none else _) = _; rw [if_neg haP]; exact hoL) hcL hdL (ints_rep hI)) .nil
  have hroom : Room callerA 3 := ⟨rfl, by decide, by decide⟩
  refine wpAny_mono (hfn callerA _ s₁ _ hroom B hr) (fun v s' ⟨G', g, B', r⟩ => ?_) fun _ _ e => e.elim
  cases r
  refine ⟨rfl, ⟨fun b o e => ?_, fun b o e => ?_⟩, g.os, B'.gens⟩
  · by_cases hb : b = C.P
    · subst hb
      rw [htab.2] at e; cases e
      obtain ⟨ps, hp, _⟩ := (H.K.tabIs _).mp B'.tab
      exact .inr (.inl ⟨htab.isCodeTable, rfl, #[], ps, rfl, by rw [hp]; simp⟩)
    · exact .inl (g.keep b o (fun h => nomatch h) hb e)
  · by_cases hb : b = C.P
    · subst hb
      obtain ⟨ps, hp, _⟩ := (H.K.tabIs _).mp B'.tab
      exact ⟨_, hp⟩
    · exact ⟨o, g.keep b o (fun h => nomatch h) hb e⟩
end Mine

/-! part 37 -/
set_option maxRecDepth 100000 in
set_option maxHeartbeats 8000000 in
theorem PySem.Challenge.cw_rl0152_01_holds : PySem.Challenge.rw_rl0152_01.Holds := by
  w_on
  o_law
  k_head
  (case hw => w_witness2)
  intro w s₀ s₁ mg mb G Y fa o pm cd doc dV kV ho hd hcd hD hmg hg args vals as hpre hlay hrd hwl hlo
  have T := G.T
  clear G Y ho hd hcd hD
  wrow_args hpre hlay hrd hwl hlo
  refine wpAny_mono (Mine.walk_main T _ _ ?_ ?_ hmg hg ‹s₁.heap.IsList _ _› ‹IntsAre _ _› (by omega) (fun _ _ => False)) (fun v s' h => ?_) (fun e s' h => h.elim)
  · intro k hk
    simp only [List.mem_cons, List.not_mem_nil, or_false] at hk
    rcases hk with rfl | rfl | rfl | rfl | rfl | rfl | rfl | rfl
    · exact ⟨_, List.mem_of_getElem? (i := 0) (by rfl)⟩
    · exact ⟨_, List.mem_of_getElem? (i := 1) (by rfl)⟩
    · exact ⟨_, List.mem_of_getElem? (i := 2) (by rfl)⟩
    · exact ⟨_, List.mem_of_getElem? (i := 3) (by rfl)⟩
    · exact ⟨_, List.mem_of_getElem? (i := 4) (by rfl)⟩
    · exact ⟨_, List.mem_of_getElem? (i := 5) (by rfl)⟩
    · exact ⟨_, List.mem_of_getElem? (i := 6) (by rfl)⟩
    · exact ⟨_, List.mem_of_getElem? (i := 7) (by rfl)⟩
  · intro x hx
    simp only [Mine.bltNames, List.mem_cons, List.not_mem_nil, or_false] at hx
    rcases hx with rfl | rfl | rfl | rfl | rfl | rfl | rfl | rfl | rfl
    all_goals exact T.free _ (by decide +kernel) (by decide +kernel) (by decide +kernel) (by decide +kernel) (by decide +kernel)
  · obtain ⟨rfl, hK, hos, hb⟩ := h
    exact ⟨.inl ⟨_, _, [], rfl, (fun _ => rfl), ReadsW.bool true, (by first | rfl | wrow_post), fun _ => ⟨List.nodup_nil, fun _ hm => nomatch hm⟩⟩, hK, hos, hb⟩
