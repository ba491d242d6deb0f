import PyProof.Rows.All
import Wide.All
import OpenK.AllK
import Wide.FinOn
import PySem.Challenge.RW_xg0058_01
set_option Elab.async false
set_option maxRecDepth 100000
set_option linter.unusedVariables false
set_option linter.unusedSimpArgs false
set_option genInjectivity false
set_option genSizeOf false
set_option genSizeOfSpec false
set_option bootstrap.genMatcherCode false
namespace Mine
open PySem PySem.Calls

/-! ## lists side by side -/
noncomputable def All2 {α β : Type} (R : α → β → Prop) : List α → List β → Prop
  | [], [] => True
  | a :: as, b :: bs => R a b ∧ All2 R as bs
  | _, _ => False

theorem All2.imp {α β : Type} {R S : α → β → Prop} (h : ∀ a b, R a b → S a b) : ∀ {as : List α} {bs : List β}, All2 R as bs → All2 S as bs
  | [], [], _ => trivial
  | _ :: _, _ :: _, ⟨x, y⟩ => ⟨h _ _ x, All2.imp h y⟩
theorem All2.imp' {α β : Type} {R S : α → β → Prop} : ∀ {as : List α} {bs : List β}, (∀ a ∈ as, ∀ b, R a b → S a b) → All2 R as bs → All2 S as bs
  | [], [], _, _ => trivial
  | _ :: _, _ :: _, h, ⟨x, y⟩ => ⟨h _ (.head _) _ x, All2.imp' (fun a ha => h a (.tail _ ha)) y⟩
theorem All2.length {α β : Type} {R : α → β → Prop} : ∀ {as : List α} {bs : List β}, All2 R as bs → as.length = bs.length
  | [], [], _ => rfl
  | _ :: _, _ :: _, ⟨_, y⟩ => by simp [All2.length y]
theorem All2.get {α β : Type} {R : α → β → Prop} : ∀ {as : List α} {bs : List β}, All2 R as bs → ∀ {i : Nat} {a : α} {b : β}, as[i]? = some a → bs[i]? = some b → R a b
  | _ :: _, _ :: _, ⟨x, _⟩, 0, _, _, ha, hb => by simp at ha hb; subst ha; subst hb; exact x
  | _ :: _, _ :: _, ⟨_, y⟩, i + 1, _, _, ha, hb => All2.get y (by simpa using ha) (by simpa using hb)
  | [], [], _, i, _, _, ha, _ => by simp at ha
theorem All2.at {α β : Type} {R : α → β → Prop} {as : List α} {bs : List β} (h : All2 R as bs) {i : Nat} {a : α} (ha : as[i]? = some a) : ∃ b, bs[i]? = some b ∧ R a b := by
  have hl : i < bs.length := h.length ▸ (List.getElem?_eq_some_iff.mp ha).1
  exact ⟨bs[i], List.getElem?_eq_getElem hl, h.get ha (List.getElem?_eq_getElem hl)⟩
theorem vs1 {α β : Type} {R : α → β → Prop} {P : α} : ∀ {vs : List β}, All2 R [P] vs → ∃ v, vs = [v] ∧ R P v
  | [_], h => ⟨_, rfl, h.1⟩
theorem vs2 {α β : Type} {R : α → β → Prop} {P P' : α} : ∀ {vs : List β}, All2 R [P, P'] vs → ∃ v v', vs = [v, v'] ∧ R P v ∧ R P' v'
  | [_, _], h => ⟨_, _, rfl, h.1, h.2.1⟩
theorem vs3 {α β : Type} {R : α → β → Prop} {P P' P'' : α} : ∀ {vs : List β}, All2 R [P, P', P''] vs → ∃ v v' v'', vs = [v, v', v''] ∧ R P v ∧ R P' v' ∧ R P'' v''
  | [_, _, _], h => ⟨_, _, _, rfl, h.1, h.2.1, h.2.2.1⟩
theorem ln1 {α : Type} : ∀ {vs : List α}, vs.length = 1 → ∃ a, vs = [a]
  | [_], _ => ⟨_, rfl⟩
theorem ln2 {α : Type} : ∀ {vs : List α}, vs.length = 2 → ∃ a b, vs = [a, b]
  | [_, _], _ => ⟨_, _, rfl⟩
theorem ln3 {α : Type} : ∀ {vs : List α}, vs.length = 3 → ∃ a b c, vs = [a, b, c]
  | [_, _, _], _ => ⟨_, _, _, rfl⟩
theorem All2.append {α β : Type} {R : α → β → Prop} : ∀ {as as' : List α} {bs bs' : List β}, All2 R as bs → All2 R as' bs' → All2 R (as ++ as') (bs ++ bs')
  | [], _, [], _, _, y => y
  | _ :: _, _, _ :: _, _, ⟨x, z⟩, y => ⟨x, All2.append z y⟩
theorem All2.map_left {α β γ : Type} {R : γ → β → Prop} {f : α → γ} : ∀ {as : List α} {bs : List β}, All2 R (as.map f) bs ↔ All2 (fun a b => R (f a) b) as bs
  | [], [] => Iff.rfl
  | [], _ :: _ => Iff.rfl
  | _ :: _, [] => Iff.rfl
  | _ :: as, _ :: bs => and_congr Iff.rfl (All2.map_left (as := as) (bs := bs))

/-! ## predicates on values -/
noncomputable abbrev XS := Addr → Prop

structure WV where
  p : XS → Heap → Value → Prop
  mono : ∀ {X : XS} {h h' : Heap} {v : Value}, (∀ b o, h.get? b = some o → h'.get? b = some o) → p X h v → p X h' v

structure HV where
  p : XS → Heap → Value → Prop
  frame : ∀ {X : XS} {h h' : Heap} {v : Value}, (∀ b o, ¬ X b → h.get? b = some o → h'.get? b = some o) → p X h v → p X h' v
  refr : ∀ {X X' : XS} {h : Heap} {v : Value}, (∀ b, X' b → X b ∨ h.get? b = none) → p X h v → p X' h v

noncomputable def HV.w (P : HV) : WV := ⟨P.p, fun k h => P.frame (fun b o _ e => k b o e) h⟩
noncomputable instance : Coe HV WV := ⟨HV.w⟩

noncomputable def TVal (P : Value → Prop) : HV := ⟨fun _ _ v => P v, fun _ h => h, fun _ h => h⟩
noncomputable def TInt (i : Int) : HV := TVal fun v => ∃ t, v = .int i t
noncomputable def TStr (x : Str) : HV := TVal fun v => ∃ t, v = .str x t
noncomputable def TBytes (x : Array UInt8) : HV := TVal fun v => ∃ t, v = .bytes x t
noncomputable def TBool (b : Bool) : HV := TVal fun v => v = .bool b
noncomputable def TNone : HV := TVal fun v => v = .none

/-- a list or tuple in the heap, its items clean of X -/
noncomputable def LSeqP (cls : String) (Ps : List HV) (X : XS) (h : Heap) (v : Value) : Prop :=
  ∃ a vs n, v = .ref a ∧ h.get? a = some { cls := .type cls, data := .seq vs n } ∧ All2 (fun (P : HV) u => P.p X h u) Ps vs.toList
noncomputable def LSeq (cls : String) (Ps : List HV) : WV := ⟨LSeqP cls Ps, by
  rintro X h h' v k ⟨a, vs, n, rfl, ho, hi⟩
  exact ⟨a, vs, n, rfl, k _ _ ho, hi.imp fun P u hu => P.frame (fun b o _ e => k b o e) hu⟩⟩
noncomputable def TSeq (cls : String) (Ps : List HV) : HV where
  p X h v := (∃ a, v = .ref a ∧ ¬ X a) ∧ LSeqP cls Ps X h v
  frame := by
    rintro X h h' v k ⟨⟨a, rfl, hX⟩, a', vs, n, e, ho, hi⟩
    cases e
    exact ⟨⟨a, rfl, hX⟩, a, vs, n, rfl, k _ _ hX ho, hi.imp fun P u hu => P.frame k hu⟩
  refr := by
    rintro X X' h v k ⟨⟨a, rfl, hX⟩, a', vs, n, e, ho, hi⟩
    cases e
    refine ⟨⟨a, rfl, fun q => ?_⟩, a, vs, n, rfl, ho, hi.imp fun P u hu => P.refr k hu⟩
    rcases k a q with q | q
    · exact hX q
    · rw [ho] at q; cases q
noncomputable abbrev TList (Ps : List HV) : HV := TSeq "list" Ps
noncomputable abbrev TTup (Ps : List HV) : HV := TSeq "tuple" Ps
noncomputable abbrev LList (Ps : List HV) : WV := LSeq "list" Ps

section
variable {prog : Program} {w : World} {K : Type} [DecidableEq K]
noncomputable def LDictP (knd : KeyKind prog w K) (kvs : List (K × HV)) (X : XS) (h : Heap) (v : Value) : Prop :=
  ∃ a us, v = .ref a ∧ (a == sysModules) = false ∧ h.DictOf knd a us ∧ All2 (fun (x : K × HV) (y : K × Value) => x.1 = y.1 ∧ x.2.p X h y.2) kvs us
theorem dictOf_at {knd : KeyKind prog w K} {h h' : Heap} {a : Addr} {us : List (K × Value)} (x : h.DictOf knd a us) (k : ∀ o, h.get? a = some o → h'.get? a = some o) : h'.DictOf knd a us :=
  let ⟨o, es, ep, ho, r⟩ := x; ⟨o, es, ep, k _ ho, r⟩
noncomputable def LDict (knd : KeyKind prog w K) (kvs : List (K × HV)) : WV := ⟨LDictP knd kvs, by
  rintro X h h' v k ⟨a, us, rfl, hs, ho, hi⟩
  exact ⟨a, us, rfl, hs, dictOf_at ho (k _), hi.imp fun x y hu => ⟨hu.1, x.2.frame (fun b o _ e => k b o e) hu.2⟩⟩⟩
noncomputable def TDict (knd : KeyKind prog w K) (kvs : List (K × HV)) : HV where
  p X h v := (∃ a, v = .ref a ∧ ¬ X a) ∧ LDictP knd kvs X h v
  frame := by
    rintro X h h' v k ⟨⟨a, rfl, hX⟩, a', us, e, hs, ho, hi⟩
    cases e
    exact ⟨⟨a, rfl, hX⟩, a, us, rfl, hs, dictOf_at ho (fun o => k _ o hX), hi.imp fun x y hu => ⟨hu.1, x.2.frame k hu.2⟩⟩
  refr := by
    rintro X X' h v k ⟨⟨a, rfl, hX⟩, a', us, e, hs, ho, hi⟩
    cases e
    refine ⟨⟨a, rfl, fun q => ?_⟩, a, us, rfl, hs, ho, hi.imp fun x y hu => ⟨hu.1, x.2.refr k hu.2⟩⟩
    rcases k a q with q | q
    · exact hX q
    · obtain ⟨o, _, _, ho, _⟩ := ho; rw [ho] at q; cases q
end

/-! ## variables -/
inductive Ent where
  | imm (P : HV)
  | ownS (cls : String) (Ps : List HV)
  | ownD {prog : Program} {w : World} {K : Type} [DecidableEq K] (knd : KeyKind prog w K) (kvs : List (K × HV))

noncomputable def Ent.w : Ent → WV
  | .imm P => P.w
  | .ownS cls Ps => LSeq cls Ps
  | @Ent.ownD _ _ _ _ knd kvs => LDict knd kvs
noncomputable def Ent.isOwn : Ent → Bool
  | .imm _ => false
  | _ => true

noncomputable abbrev Ctx := List (Str × Ent)

structure Fm (env : Env) (h : Heap) (m cm : Str → Option Value) : Prop where
  ns : h.Ns env.locals m
  cell : ∀ n c, env.cells.lookup n = some c → h.IsCell c (cm n)

noncomputable def valOf (env : Env) (m cm : Str → Option Value) (x : Str) : Option Value :=
  match env.kindOf x with
  | some .local => m x
  | some .cell => (env.cells.lookup x).bind fun _ => cm x
  | some .free => (env.cells.lookup x).bind fun _ => cm x
  | _ => none

theorem Fm.keeps {env : Env} {h h' : Heap} {m cm} (F : Fm env h m cm) (k : ∀ b o, h.get? b = some o → h'.get? b = some o) : Fm env h' m cm :=
  ⟨F.ns.keeps k, fun n c e => (F.cell n c e).keeps k⟩

noncomputable def SatV (env : Env) (ρ : Ctx) (X : XS) (h : Heap) (m cm : Str → Option Value) : Prop :=
  ∀ x e, ρ.lookup x = some e → ∃ v, valOf env m cm x = some v ∧ e.w.p X h v

noncomputable def Sat (env : Env) (ρ : Ctx) (X : XS) (h : Heap) : Prop :=
  (∀ b, X b → (h.get? b).isSome = true) ∧ ∃ m cm, Fm env h m cm ∧ SatV env ρ X h m cm

theorem SatV.keeps {env : Env} {ρ : Ctx} {X : XS} {h h' : Heap} {m cm} (S : SatV env ρ X h m cm) (k : ∀ b o, h.get? b = some o → h'.get? b = some o) : SatV env ρ X h' m cm :=
  fun x e hx => let ⟨v, hv, hp⟩ := S x e hx; ⟨v, hv, e.w.mono k hp⟩
theorem there_keeps {X : XS} {h h' : Heap} (x : ∀ b, X b → (h.get? b).isSome = true) (k : ∀ b o, h.get? b = some o → h'.get? b = some o) : ∀ b, X b → (h'.get? b).isSome = true := by
  intro b hb
  obtain ⟨o, ho⟩ := Option.isSome_iff_exists.mp (x b hb)
  rw [k b o ho]; rfl
theorem Sat.keeps {env : Env} {ρ : Ctx} {X : XS} {h h' : Heap} (S : Sat env ρ X h) (k : ∀ b o, h.get? b = some o → h'.get? b = some o) : Sat env ρ X h' :=
  let ⟨a, m, cm, F, V⟩ := S; ⟨there_keeps a k, m, cm, F.keeps k, V.keeps k⟩

/-! ## room, the world's part -/
structure Room (A : Around) (r : Nat) : Prop where
  hh : A.handled = none
  dep : A.depth + r < recursionLimit
  un : A.units + 10 * r < cLine
theorem Room.le {A : Around} {r r' : Nat} (R : Room A r) (h : r' ≤ r) : Room A r' := ⟨R.hh, by have := R.dep; lia, by have := R.un; lia⟩
theorem Room.deeper {A : Around} {env : Env} {r : Nat} (R : Room A (r + 1)) : Room (A.deeper env) r :=
  ⟨R.hh, by have := R.dep; show A.depth + 1 + r < _; lia, by have := R.un; show A.units + 3 + 10 * r < _; lia⟩

noncomputable abbrev PM := Addr → Option Obj
noncomputable def Sub (K : PM) (h : Heap) : Prop := ∀ a o, K a = some o → h.get? a = some o
theorem Sub.keeps {K : PM} {h h' : Heap} (x : Sub K h) (k : ∀ b o, h.get? b = some o → h'.get? b = some o) : Sub K h' := fun a o e => k _ _ (x a o e)

/-- what is asked of the world's part -/
structure KF (K : PM) (gl : List (Str × Value)) : Prop where
  nolimit : ∀ h, Sub K h → h.NoLimit
  glob : ∀ h, Sub K h → ∃ mg, h.Ns mainGlobals mg ∧ (∀ x v, gl.lookup x = some v → mg x = some v) ∧ ∀ x, gl.lookup x = none → x ∉ startupNames → mg x = none
  blt : ∀ h, Sub K h → ∃ mb, h.Ns builtinsNs mb ∧ ∀ x : Str, x ≠ "__name__" → mb x = bootBuiltins x

/-! ## the judgement on expressions -/
section
variable (prog : Program) (w : World) (K : PM)

noncomputable def Ev (env : Env) (r : Nat) (ρ : Ctx) (e : Expr) (P : WV) : Prop :=
  ∀ (A : Around) (s : Shared) (X : XS) (Q : Value → Shared → Prop) (E : Value → Shared → Prop), Room A r → Sub K s.heap → Sat env ρ X s.heap →
    (∀ v h' tk, (∀ b o, s.heap.get? b = some o → h'.get? b = some o) → P.p X h' v → Q v { s with heap := h', toks := tk }) →
    wpAny (model prog w) A (eval e env) Q E s

/-- a test -/
noncomputable def Tst (env : Env) (r : Nat) (ρ : Ctx) (e : Expr) (b : Bool) : Prop :=
  ∀ (A : Around) (s : Shared) (X : XS) (Q : Bool → Shared → Prop) (E : Value → Shared → Prop), Room A r → Sub K s.heap → Sat env ρ X s.heap →
    (∀ h' tk, (∀ b o, s.heap.get? b = some o → h'.get? b = some o) → Q b { s with heap := h', toks := tk }) →
    wpAny (model prog w) A (isTrue e env (eval e env)) Q E s

/-- a step upon values: the heap grows alone -/
noncomputable def Vl {α : Type} (r : Nat) (X : XS) (h : Heap) (t : Sem α) (P : α → Heap → Prop) : Prop :=
  ∀ (A : Around) (s : Shared) (Q : α → Shared → Prop) (E : Value → Shared → Prop), Room A r → s.heap = h → Sub K s.heap → (∀ b, X b → (s.heap.get? b).isSome = true) →
    (∀ v h' tk, (∀ b o, s.heap.get? b = some o → h'.get? b = some o) → P v h' → Q v { s with heap := h', toks := tk }) →
    wpAny (model prog w) A t Q E s
end

section
variable {prog : Program} {w : World} {K : PM} {env : Env} {r : Nat} {ρ : Ctx}

theorem Ev.weaken {e : Expr} {P P' : WV} (h : Ev prog w K env r ρ e P) (hp : ∀ X h v, P.p X h v → P'.p X h v) : Ev prog w K env r ρ e P' :=
  fun A s X Q E R k S c => h A s X Q E R k S fun v h' tk kp p => c v h' tk kp (hp _ _ _ p)
theorem Ev.room {e : Expr} {P : WV} {r' : Nat} (h : Ev prog w K env r ρ e P) (hr : r ≤ r') : Ev prog w K env r' ρ e P :=
  fun A s X Q E R k S c => h A s X Q E (R.le hr) k S c

theorem ev_var {x : Str} {p : Pos} {e : Ent} (hk : env.scope.kind = .function) (hx : ρ.lookup x = some e) (hd : (x == ("__debug__" : Str)) = false := by decide)
    (hn : (x == ("__classdict__" : Str)) = false := by decide) : Ev prog w K env r ρ (.Name x p) e.w := by
  intro A s X Q E R kS S c
  obtain ⟨hX, m, cm, F, V⟩ := S
  obtain ⟨v, hv, hp⟩ := V x e hx
  refine wpAny_Name ?_ hd
  have fin : Q v s := c v s.heap s.toks (fun _ _ q => q) hp
  unfold valOf at hv
  split at hv
  · rename_i hl; exact wpAny_loadName_local hk hl F.ns hv fin
  · rename_i hl
    obtain ⟨cc, hc, hv⟩ := Option.bind_eq_some_iff.mp hv
    exact wpAny_loadName_cell hk hl hc (hv ▸ F.cell x cc hc) fin
  · rename_i hl
    obtain ⟨cc, hc, hv⟩ := Option.bind_eq_some_iff.mp hv
    exact wpAny_loadName_free hk hl hc (hv ▸ F.cell x cc hc) fin hn
  · cases hv
end
end Mine

namespace Mine
open PySem PySem.Calls

section
variable {prog : Program} {w : World} {K : PM} {gl : List (Str × Value)} {env : Env} {r : Nat} {ρ : Ctx}

theorem ev_int {i : Int} {k : Nat} {p : Pos} : Ev prog w K env r ρ (.Constant (.int i) k p) (TInt i) :=
  fun _ s _ _ _ _ _ _ c => wpAny_Constant_int (c _ s.heap _ (fun _ _ q => q) ⟨_, rfl⟩)
theorem ev_str {x : Str} {k : Nat} {p : Pos} : Ev prog w K env r ρ (.Constant (.str x) k p) (TStr x) :=
  fun _ s _ _ _ _ _ _ c => Calls.Constant_str (c _ s.heap _ (fun _ _ q => q) ⟨_, rfl⟩)
theorem ev_none {k : Nat} {p : Pos} : Ev prog w K env r ρ (.Constant .none k p) TNone :=
  fun _ s _ _ _ _ _ _ c => wpAny_Constant_none (c _ s.heap s.toks (fun _ _ q => q) rfl)
/-! ### two operands -/
theorem two_ops {a b : Expr} {Pa Pb : WV} {A : Around} {s : Shared} {X : XS} {E : Value → Shared → Prop} {F : Value → Value → Shared → Prop} (ha : Ev prog w K env r ρ a Pa) (hb : Ev prog w K env r ρ b Pb)
    (R : Room A r) (k : Sub K s.heap) (S : Sat env ρ X s.heap)
    (c : ∀ va vb h' tk, (∀ b o, s.heap.get? b = some o → h'.get? b = some o) → Sub K h' → Sat env ρ X h' → Pa.p X h' va → Pb.p X h' vb → F va vb { s with heap := h', toks := tk }) :
    wpAny (model prog w) A (eval a env) (fun va s₁ => wpAny (model prog w) A (eval b env) (fun vb s₂ => F va vb s₂) E s₁) E s := by
  refine ha A s X _ _ R k S fun va h₁ t₁ k₁ pa => ?_
  refine hb A _ X _ _ R (k.keeps k₁) (S.keeps k₁) fun vb h₂ t₂ k₂ pb => ?_
  exact c va vb h₂ t₂ (fun b o e => k₂ b o (k₁ b o e)) ((k.keeps k₁).keeps k₂) ((S.keeps k₁).keeps k₂) (Pa.mono k₂ pa) pb

theorem ev_bin {op : Operator} {a b : Expr} {pos : Pos} {Pa Pb P : WV} (ha : Ev prog w K env r ρ a Pa) (hb : Ev prog w K env r ρ b Pb)
    (h : ∀ X hh va vb, Pa.p X hh va → Pb.p X hh vb → Vl prog w K r X hh (binaryOp op va vb) (fun v h' => P.p X h' v)) :
    Ev prog w K env r ρ (.BinOp a op b pos) P := by
  intro A s X Q E R k S c
  refine wpAny_BinOp (two_ops ha hb R k S fun va vb h' tk kp kK S' pa pb => ?_)
  exact h X h' va vb pa pb A _ Q E R rfl kK S'.1 fun v h'' tk' kp' pv => c v h'' tk' (fun b o e => kp' b o (kp b o e)) pv

theorem tst_cmp {op : CmpOp} {a b : Expr} {pos : Pos} {Pa Pb : WV} {t : Bool} (ha : Ev prog w K env r ρ a Pa) (hb : Ev prog w K env r ρ b Pb)
    (h : ∀ X hh va vb, Pa.p X hh va → Pb.p X hh vb → Vl prog w K r X hh (compareOp op va vb) (fun v _ => v = .bool t))
    (hm : behindInMarks op b = false := by with_unfolding_all rfl) :
    Tst prog w K env r ρ (.Compare a [op] [b] pos) t := by
  intro A s X Q E R k S c
  refine wpAny_isTrue_Compare1 (two_ops ha hb R k S fun va vb h' tk kp kK S' pa pb => ?_) hm
  refine h X h' va vb pa pb A _ _ E R rfl kK S'.1 fun v h'' tk' kp' pv => ?_
  subst pv
  exact wpAny_truthy_bool (c h'' tk' fun b o e => kp' b o (kp b o e))

/-! ### ints -/
section
variable {X : XS} {hh : Heap} {va vb : Value} {a b : Int}
theorem vl_add (ha : ∃ t, va = .int a t) (hb : ∃ t, vb = .int b t) : Vl prog w K r X hh (binaryOp .Add va vb) (fun v _ => ∃ t, v = .int (a + b) t) := by
  obtain ⟨t, rfl⟩ := ha; obtain ⟨u, rfl⟩ := hb
  exact fun _ s _ _ _ _ _ _ c => PyProof.Rows.add_int (c _ s.heap _ (fun _ _ q => q) ⟨_, rfl⟩)
theorem vl_sub (ha : ∃ t, va = .int a t) (hb : ∃ t, vb = .int b t) : Vl prog w K r X hh (binaryOp .Sub va vb) (fun v _ => ∃ t, v = .int (a - b) t) := by
  obtain ⟨t, rfl⟩ := ha; obtain ⟨u, rfl⟩ := hb
  exact fun _ s _ _ _ _ _ _ c => PyProof.Rows.sub_int (c _ s.heap _ (fun _ _ q => q) ⟨_, rfl⟩)
theorem vl_mul (ha : ∃ t, va = .int a t) (hb : ∃ t, vb = .int b t) (hm : IntMulOk a b) : Vl prog w K r X hh (binaryOp .Mult va vb) (fun v _ => ∃ t, v = .int (a * b) t) := by
  obtain ⟨t, rfl⟩ := ha; obtain ⟨u, rfl⟩ := hb
  exact fun _ s _ _ _ _ _ _ c => PyProof.Rows.mul_int (c _ s.heap _ (fun _ _ q => q) ⟨_, rfl⟩) hm
theorem vl_fdiv (ha : ∃ t, va = .int a t) (hb : ∃ t, vb = .int b t) (h0 : b ≠ 0) (hp : Builtin.divisionGoesByPylong a b = false) : Vl prog w K r X hh (binaryOp .FloorDiv va vb) (fun v _ => ∃ t, v = .int (a.fdiv b) t) := by
  obtain ⟨t, rfl⟩ := ha; obtain ⟨u, rfl⟩ := hb
  exact fun _ s _ _ _ _ _ _ c => PyProof.Rows.floordiv_int h0 (c _ s.heap _ (fun _ _ q => q) ⟨_, rfl⟩) (.inl hp)
theorem vl_mod (ha : ∃ t, va = .int a t) (hb : ∃ t, vb = .int b t) (h0 : b ≠ 0) : Vl prog w K r X hh (binaryOp .Mod va vb) (fun v _ => ∃ t, v = .int (a.fmod b) t) := by
  obtain ⟨t, rfl⟩ := ha; obtain ⟨u, rfl⟩ := hb
  exact fun _ s _ _ _ _ _ _ c => PyProof.Rows.mod_int' h0 (c _ s.heap _ (fun _ _ q => q) ⟨_, rfl⟩)
theorem vl_shr (ha : ∃ t, va = .int a t) (hb : ∃ t, vb = .int b t) (h0 : 0 ≤ b) : Vl prog w K r X hh (binaryOp .RShift va vb) (fun v _ => ∃ t, v = .int (a.fdiv (2 ^ b.toNat)) t) := by
  obtain ⟨t, rfl⟩ := ha; obtain ⟨u, rfl⟩ := hb
  exact fun _ s _ _ _ _ _ _ c => PyProof.Rows.rshift_int h0 (c _ s.heap _ (fun _ _ q => q) ⟨_, rfl⟩)
theorem vl_shl (ha : ∃ t, va = .int a t) (hb : ∃ t, vb = .int b t) (h0 : 0 ≤ b) (h2 : b ≤ 1000000) (h3 : a.natAbs < 2 ^ 64) : Vl prog w K r X hh (binaryOp .LShift va vb) (fun v _ => ∃ t, v = .int (a * 2 ^ b.toNat) t) := by
  obtain ⟨t, rfl⟩ := ha; obtain ⟨u, rfl⟩ := hb
  exact fun _ s _ _ _ _ _ _ c => PyProof.Rows.lshift_int_small h0 h2 h3 (c _ s.heap _ (fun _ _ q => q) ⟨_, rfl⟩)
theorem vl_xor (ha : ∃ t, va = .int a t) (hb : ∃ t, vb = .int b t) : Vl prog w K r X hh (binaryOp .BitXor va vb) (fun v _ => ∃ t, v = .int (Builtin.bitXor a b) t) := by
  obtain ⟨t, rfl⟩ := ha; obtain ⟨u, rfl⟩ := hb
  exact fun _ s _ _ _ _ _ _ c => PyProof.Rows.xor_int (c _ s.heap _ (fun _ _ q => q) ⟨_, rfl⟩)
theorem vl_pow (ha : ∃ t, va = .int a t) (hb : ∃ t, vb = .int b t) (h0 : 0 ≤ b) (hs : (Builtin.Int.intBits a : Int) * b ≤ 2 ^ 27) : Vl prog w K r X hh (binaryOp .Pow va vb) (fun v _ => ∃ t, v = .int (a ^ b.toNat) t) := by
  obtain ⟨t, rfl⟩ := ha; obtain ⟨u, rfl⟩ := hb
  exact fun _ s _ _ _ _ _ _ c => PyProof.Rows.pow_int h0 hs (c _ s.heap _ (fun _ _ q => q) ⟨_, rfl⟩)

theorem vl_eq (ha : ∃ t, va = .int a t) (hb : ∃ t, vb = .int b t) : Vl prog w K r X hh (compareOp .Eq va vb) (fun v _ => v = .bool (decide (a = b))) := by
  obtain ⟨t, rfl⟩ := ha; obtain ⟨u, rfl⟩ := hb
  exact fun _ s _ _ _ _ _ _ c => PyProof.Rows.eq_int (c _ s.heap _ (fun _ _ q => q) rfl)
theorem vl_ne (ha : ∃ t, va = .int a t) (hb : ∃ t, vb = .int b t) : Vl prog w K r X hh (compareOp .NotEq va vb) (fun v _ => v = .bool (decide (a ≠ b))) := by
  obtain ⟨t, rfl⟩ := ha; obtain ⟨u, rfl⟩ := hb
  exact fun _ s _ _ _ _ _ _ c => PyProof.Rows.ne_int (c _ s.heap _ (fun _ _ q => q) (by
    by_cases e : a = b
    · subst e; simp
    · simp [e]))
theorem vl_lt (ha : ∃ t, va = .int a t) (hb : ∃ t, vb = .int b t) : Vl prog w K r X hh (compareOp .Lt va vb) (fun v _ => v = .bool (decide (a < b))) := by
  obtain ⟨t, rfl⟩ := ha; obtain ⟨u, rfl⟩ := hb
  exact fun _ s _ _ _ _ _ _ c => PyProof.Rows.lt_int (c _ s.heap _ (fun _ _ q => q) rfl)
theorem vl_le (ha : ∃ t, va = .int a t) (hb : ∃ t, vb = .int b t) : Vl prog w K r X hh (compareOp .LtE va vb) (fun v _ => v = .bool (decide (a ≤ b))) := by
  obtain ⟨t, rfl⟩ := ha; obtain ⟨u, rfl⟩ := hb
  exact fun _ s _ _ _ _ _ _ c => PyProof.Rows.le_int (c _ s.heap _ (fun _ _ q => q) rfl)
theorem vl_gt (ha : ∃ t, va = .int a t) (hb : ∃ t, vb = .int b t) : Vl prog w K r X hh (compareOp .Gt va vb) (fun v _ => v = .bool (decide (b < a))) := by
  obtain ⟨t, rfl⟩ := ha; obtain ⟨u, rfl⟩ := hb
  exact fun _ s _ _ _ _ _ _ c => PyProof.Rows.gt_int (c _ s.heap _ (fun _ _ q => q) rfl)
theorem vl_ge (ha : ∃ t, va = .int a t) (hb : ∃ t, vb = .int b t) : Vl prog w K r X hh (compareOp .GtE va vb) (fun v _ => v = .bool (decide (b ≤ a))) := by
  obtain ⟨t, rfl⟩ := ha; obtain ⟨u, rfl⟩ := hb
  exact fun _ s _ _ _ _ _ _ c => PyProof.Rows.ge_int (c _ s.heap _ (fun _ _ q => q) rfl)
end

section
variable {a b : Expr} {pos : Pos} {x y : Int} (ha : Ev prog w K env r ρ a (TInt x)) (hb : Ev prog w K env r ρ b (TInt y))
include ha hb
theorem ev_add : Ev prog w K env r ρ (.BinOp a .Add b pos) (TInt (x + y)) := ev_bin ha hb fun _ _ _ _ p q => vl_add p q
theorem ev_sub : Ev prog w K env r ρ (.BinOp a .Sub b pos) (TInt (x - y)) := ev_bin ha hb fun _ _ _ _ p q => vl_sub p q
theorem ev_mul (hm : IntMulOk x y) : Ev prog w K env r ρ (.BinOp a .Mult b pos) (TInt (x * y)) := ev_bin ha hb fun _ _ _ _ p q => vl_mul p q hm
theorem ev_fdiv (h0 : y ≠ 0) (hp : Builtin.divisionGoesByPylong x y = false) : Ev prog w K env r ρ (.BinOp a .FloorDiv b pos) (TInt (x.fdiv y)) := ev_bin ha hb fun _ _ _ _ p q => vl_fdiv p q h0 hp
theorem ev_mod (h0 : y ≠ 0) : Ev prog w K env r ρ (.BinOp a .Mod b pos) (TInt (x.fmod y)) := ev_bin ha hb fun _ _ _ _ p q => vl_mod p q h0
theorem ev_shr (h0 : 0 ≤ y) : Ev prog w K env r ρ (.BinOp a .RShift b pos) (TInt (x.fdiv (2 ^ y.toNat))) := ev_bin ha hb fun _ _ _ _ p q => vl_shr p q h0
theorem ev_shl (h0 : 0 ≤ y) (h2 : y ≤ 1000000) (h3 : x.natAbs < 2 ^ 64) : Ev prog w K env r ρ (.BinOp a .LShift b pos) (TInt (x * 2 ^ y.toNat)) := ev_bin ha hb fun _ _ _ _ p q => vl_shl p q h0 h2 h3
theorem ev_xor : Ev prog w K env r ρ (.BinOp a .BitXor b pos) (TInt (Builtin.bitXor x y)) := ev_bin ha hb fun _ _ _ _ p q => vl_xor p q
theorem ev_pow (h0 : 0 ≤ y) (hs : (Builtin.Int.intBits x : Int) * y ≤ 2 ^ 27) : Ev prog w K env r ρ (.BinOp a .Pow b pos) (TInt (x ^ y.toNat)) := ev_bin ha hb fun _ _ _ _ p q => vl_pow p q h0 hs

theorem tst_eq (hm : behindInMarks .Eq b = false := by with_unfolding_all rfl) : Tst prog w K env r ρ (.Compare a [.Eq] [b] pos) (decide (x = y)) := tst_cmp ha hb (fun _ _ _ _ p q => vl_eq p q) hm
theorem tst_ne (hm : behindInMarks .NotEq b = false := by with_unfolding_all rfl) : Tst prog w K env r ρ (.Compare a [.NotEq] [b] pos) (decide (x ≠ y)) := tst_cmp ha hb (fun _ _ _ _ p q => vl_ne p q) hm
theorem tst_lt (hm : behindInMarks .Lt b = false := by with_unfolding_all rfl) : Tst prog w K env r ρ (.Compare a [.Lt] [b] pos) (decide (x < y)) := tst_cmp ha hb (fun _ _ _ _ p q => vl_lt p q) hm
theorem tst_le (hm : behindInMarks .LtE b = false := by with_unfolding_all rfl) : Tst prog w K env r ρ (.Compare a [.LtE] [b] pos) (decide (x ≤ y)) := tst_cmp ha hb (fun _ _ _ _ p q => vl_le p q) hm
theorem tst_gt (hm : behindInMarks .Gt b = false := by with_unfolding_all rfl) : Tst prog w K env r ρ (.Compare a [.Gt] [b] pos) (decide (y < x)) := tst_cmp ha hb (fun _ _ _ _ p q => vl_gt p q) hm
theorem tst_ge (hm : behindInMarks .GtE b = false := by with_unfolding_all rfl) : Tst prog w K env r ρ (.Compare a [.GtE] [b] pos) (decide (y ≤ x)) := tst_cmp ha hb (fun _ _ _ _ p q => vl_ge p q) hm
end

theorem ev_cast {e : Expr} {P P' : WV} (h : Ev prog w K env r ρ e P) (hp : P = P') : Ev prog w K env r ρ e P' := hp ▸ h
theorem ev_castI {e : Expr} {x y : Int} (h : Ev prog w K env r ρ e (TInt x)) (hp : x = y) : Ev prog w K env r ρ e (TInt y) := hp ▸ h
theorem ev_castS {e : Expr} {x y : Str} (h : Ev prog w K env r ρ e (TStr x)) (hp : x = y) : Ev prog w K env r ρ e (TStr y) := hp ▸ h
theorem tst_cast {e : Expr} {x y : Bool} (h : Tst prog w K env r ρ e x) (hp : x = y) : Tst prog w K env r ρ e y := hp ▸ h

/-! ### one operand -/
theorem ev_neg {a : Expr} {pos : Pos} {x : Int} (ha : Ev prog w K env r ρ a (TInt x)) : Ev prog w K env r ρ (.UnaryOp .USub a pos) (TInt (-x)) := by
  intro A s X Q E R k S c
  refine wpAny_UnaryOp (ha A s X _ _ R k S ?_)
  rintro v h' tk kp ⟨t, rfl⟩
  exact PyProof.Rows.neg_int (c _ h' _ kp ⟨_, rfl⟩)
theorem ev_inv {a : Expr} {pos : Pos} {x : Int} (ha : Ev prog w K env r ρ a (TInt x)) : Ev prog w K env r ρ (.UnaryOp .Invert a pos) (TInt (Builtin.bitNot x)) := by
  intro A s X Q E R k S c
  refine wpAny_UnaryOp (ha A s X _ _ R k S ?_)
  rintro v h' tk kp ⟨t, rfl⟩
  exact PyProof.Rows.invert_int (c _ h' _ kp ⟨_, rfl⟩)

theorem ev_ifexp {t a b : Expr} {pos : Pos} {c : Bool} {P : WV} (ht : Tst prog w K env r ρ t c) (ha : c = true → Ev prog w K env r ρ a P) (hb : c = false → Ev prog w K env r ρ b P) :
    Ev prog w K env r ρ (.IfExp t a b pos) P := by
  intro A s X Q E R k S cc
  refine wpAny_IfExp (ht A s X _ _ R k S fun h' tk kp => ?_)
  cases c with
  | true => exact (ha rfl) A _ X Q E R (k.keeps kp) (S.keeps kp) fun v h'' tk' kp' p => cc v h'' tk' (fun b o e => kp' b o (kp b o e)) p
  | false => exact (hb rfl) A _ X Q E R (k.keeps kp) (S.keeps kp) fun v h'' tk' kp' p => cc v h'' tk' (fun b o e => kp' b o (kp b o e)) p
end
end Mine

namespace Mine
open PySem PySem.Calls

section
variable {prog : Program} {w : World} {K : PM} {gl : List (Str × Value)} {env : Env} {r : Nat} {ρ : Ctx}

/-! ### arguments -/
structure EvL (prog : Program) (w : World) (K : PM) (env : Env) (r : Nat) (ρ : Ctx) (pos : Pos) (es : List Expr) (Ps : List WV) : Prop where
  plain : (backTo pos (starEach es env)).any (·.1) = false
  run : ∀ (A : Around) (s : Shared) (X : XS) (Q : List Value → Shared → Prop) (E : Value → Shared → Prop), Room A r → Sub K s.heap → Sat env ρ X s.heap →
    (∀ vs h' tk, (∀ b o, s.heap.get? b = some o → h'.get? b = some o) → All2 (fun (P : WV) v => P.p X h' v) Ps vs → Q vs { s with heap := h', toks := tk }) →
    wpAny (model prog w) A (spliced (backTo pos (starEach es env))) Q E s

theorem evl_nil {pos : Pos} : EvL prog w K env r ρ pos [] [] :=
  ⟨rfl, fun _ s _ _ _ _ _ _ c => Calls.spliced_nil (c [] s.heap s.toks (fun _ _ q => q) trivial)⟩
theorem evl_cons {pos : Pos} {e : Expr} {es : List Expr} {P : WV} {Ps : List WV} (he : Ev prog w K env r ρ e P) (hr : EvL prog w K env r ρ pos es Ps)
    (hst : starEach (e :: es) env = (false, eval e env) :: starEach es env := by rfl) : EvL prog w K env r ρ pos (e :: es) (P :: Ps) := by
  refine ⟨?_, fun A s X Q E R k S c => ?_⟩
  · rw [hst]; exact hr.plain
  rw [hst]
  show wpAny _ A (spliced ((false, eval e env) :: backTo pos (starEach es env))) Q E s
  refine Calls.spliced_cons (he A s X _ _ R k S fun v h₁ t₁ k₁ p₁ => ?_)
  refine hr.run A _ X _ _ R (k.keeps k₁) (S.keeps k₁) fun vs h₂ t₂ k₂ p₂ => ?_
  exact c (v :: vs) h₂ t₂ (fun b o q => k₂ b o (k₁ b o q)) ⟨P.mono k₂ p₁, p₂⟩

theorem evalArgs_trees {M : Model} {A : Around} {E : Value → Shared → Prop} {s : Shared} {f : Value} {trees : List (Bool × Sem Value)} {Q : Args → Shared → Prop} (hp : trees.any (·.1) = false)
    (h : wpAny M A (spliced trees) (fun vs s' => Q ⟨vs, []⟩ s') E s) : wpAny M A (evalArgs f true trees []) Q E s := by
  cases trees with
  | nil =>
    unfold evalArgs
    show wpAny M A (spliced [] >>= _) Q E s
    exact wpAny_bind (wpAny_mono h (fun vs s' h' => wpAny_holding (wpAny_bind (wpAny_pure (wpAny_bind (wpAny_pure (wpAny_pure h')))))) fun _ _ x => x)
  | cons t rest =>
    obtain ⟨b, x⟩ := t
    cases b with
    | true => simp at hp
    | false => exact Calls.evalArgs_plain h

theorem callWith_val {M : Model} {A : Around} {E : Value → Shared → Prop} {s : Shared} {pos : Pos} {f : Value} {first : List Value} {args : List (Bool × Sem Value)} {Q : Value → Shared → Prop} (hf : ∀ a, f ≠ .ref a) (hplain : args.any (·.1) = false)
    (h : wpAny M A (evalArgs f true args []) (fun a s₁ => wpAny M A (call f (first ++ a.pos) a.kw) Q E s₁) E s) :
    wpAny M A (callWith pos f first args []) Q E s := by
  unfold callWith
  refine wpAny_bind (wpAny_holding (wpAny_mono h (fun a s₁ h₁ => wpAny_bind (wpAny_standAt ?_)) fun _ _ x => x))
  have hk : keeperOf f = pure .machine := by
    unfold keeperOf
    cases f <;> first | rfl | exact absurd rfl (hf _)
  rw [hplain]
  refine wpAny_bind (m := keeperOf f) ?_
  rw [hk]
  refine wpAny_pure ?_
  exact wpAny_bind (wpAny_mono h₁ (fun r s₂ hr => wpAny_bind (wpAny_holding (wpAny_point (wpAny_pure hr)))) fun _ _ x => x)

/-- a built-in name, called -/
theorem ev_call_b {f : Str} {p pos : Pos} {args : List Expr} {fv : Value} {Ps : List WV} {P : WV} (kf : KF K gl) (hgl : env.globals = mainGlobals) (hbl : env.builtins = builtinsNs) (hk : env.scope.kind = .function)
    (hb : bootBuiltins f = some fv) (hf : ∀ a, fv ≠ .ref a)
    (hargs : EvL prog w K env r ρ pos args Ps)
    (h : ∀ X hh vs, All2 (fun (P : WV) v => P.p X hh v) Ps vs → Vl prog w K r X hh (call fv vs) (fun v h' => P.p X h' v))
    (hx : env.kindOf f = some .globalImplicit := by rfl) (hg : gl.lookup f = none := by rfl) (hs : f ∉ startupNames := by decide) (hn : f ≠ "__name__" := by decide)
    (hd : (f == ("__debug__" : Str)) = false := by decide) :
    Ev prog w K env r ρ (.Call (.Name f p) args [] pos) P := by
  intro A s X Q E R k S c
  show wpAny _ A (do callWith pos (← eval (.Name f p) env) [] (backTo pos (starEach args env)) (backToKw pos (keywordEach [] env))) Q E s
  obtain ⟨mg, hmg, _, hmiss⟩ := kf.glob _ k
  obtain ⟨mb, hmb, hmv⟩ := kf.blt _ k
  refine wpAny_bind (Calls.Name_function_global hk hx (Calls.loadGlobal_builtin (hgl ▸ hmg) (hmiss f hg hs) (hbl ▸ hmb) ((hmv f hn).trans hb) ?_) hd)
  refine callWith_val hf hargs.plain (evalArgs_trees hargs.plain (hargs.run A s X _ _ R k S fun vs h' tk kp pv => ?_))
  exact h X h' vs pv A _ Q E R rfl (k.keeps kp) (there_keeps S.1 kp) fun v h'' tk' kp' p => c v h'' tk' (fun b o q => kp' b o (kp b o q)) p

/-- a def of the text, by name -/
noncomputable def Fn (prog : Program) (w : World) (K : PM) (a : Addr) (r : Nat) (Ps : List WV) (P : WV) : Prop :=
  ∀ (A : Around) (s : Shared) (X : XS) (vs : List Value) (Q : Value → Shared → Prop) (E : Value → Shared → Prop), Room A r → Sub K s.heap → (∀ b, X b → (s.heap.get? b).isSome = true) →
    All2 (fun (P : WV) v => P.p X s.heap v) Ps vs →
    (∀ v h' tk, (∀ b o, s.heap.get? b = some o → h'.get? b = some o) → P.p X h' v → Q v { s with heap := h', toks := tk }) →
    wpAny (model prog w) A (call (.ref a) vs) Q E s

theorem ev_fn {f : Str} {p pos : Pos} {args : List Expr} {a : Addr} {o : Obj} {fd : FuncData} {Ps : List WV} {P : WV} (kf : KF K gl) (hgl : env.globals = mainGlobals) (hk : env.scope.kind = .function)
    (hg : gl.lookup f = some (.ref a)) (ho : K a = some o) (hd : o.data = .func fd)
    (hargs : EvL prog w K env r ρ pos args Ps) (h : Fn prog w K a r Ps P)
    (hx : env.kindOf f = some .globalImplicit := by rfl) (hdb : (f == ("__debug__" : Str)) = false := by decide) :
    Ev prog w K env r ρ (.Call (.Name f p) args [] pos) P := by
  intro A s X Q E R k S c
  show wpAny _ A (do callWith pos (← eval (.Name f p) env) [] (backTo pos (starEach args env)) (backToKw pos (keywordEach [] env))) Q E s
  obtain ⟨mg, hmg, hval, _⟩ := kf.glob _ k
  refine wpAny_bind (Calls.Name_function_global hk hx (Calls.loadGlobal_global (hgl ▸ hmg) (hval f _ hg) ?_) hdb)
  refine Calls.callWith_function (o := o) (fd := fd) (evalArgs_trees hargs.plain (hargs.run A s X _ _ R k S fun vs h' tk kp pv => ⟨⟨(k.keeps kp) _ _ ho, hd⟩, ?_⟩))
  exact h A _ X vs Q E R (k.keeps kp) (there_keeps S.1 kp) pv fun v h'' tk' kp' p => c v h'' tk' (fun b o q => kp' b o (kp b o q)) p

/-- a method of a built-in type -/
theorem ev_meth {o : Expr} {name : Str} {apos pos : Pos} {args : List Expr} {T id : String} {Po P : WV} {Ps : List WV}
    (pa : PlainAttrs T) (slot : Slot T name id) (hty : typeOf (.builtin id) = pure (.type "method_descriptor"))
    (ho : Ev prog w K env r ρ o Po) (hsh : ∀ X (s : Shared) v, Po.p X s.heap v → s.TypeIs v T ∧ ∀ a, v = .ref a → ∃ ob, s.heap.get? a = some ob ∧ ob.dict = none)
    (hargs : EvL prog w K env r ρ pos args Ps)
    (h : ∀ X hh ov vs, Po.p X hh ov → All2 (fun (P : WV) v => P.p X hh v) Ps vs → Vl prog w K r X hh (call (.builtin id) (ov :: vs)) (fun v h' => P.p X h' v))
    (hbase : attributeBase o name env (eval o env) = eval o env := by rfl)
    (hfew : ((backTo pos (starEach args env)).all (fun x => !x.1) && (backToKw pos (keywordEach [] env)).all (fun x => x.1.isSome)
      && decide (args.length + ([] : List Keyword).length + (if ([] : List Keyword).isEmpty then 0 else 1) < 30)) = true := by rfl)
    (hline : (apos.endLine == pos.line) = true := by rfl) :
    Ev prog w K env r ρ (.Call (.Attribute o name apos) args [] pos) P := by
  intro A s X Q E R k S c
  refine wpAny_Call_method hbase hfew hline pa slot hty (ho A s X _ _ R k S fun ov h₁ t₁ k₁ po => ?_)
  obtain ⟨hT, hd⟩ := hsh X { s with heap := h₁, toks := t₁ } ov po
  refine ⟨hT, hd, ?_⟩
  refine Calls.callWith_builtin hargs.plain (evalArgs_trees hargs.plain (hargs.run A _ X _ _ R (k.keeps k₁) (S.keeps k₁) fun vs h₂ t₂ k₂ pv => ?_))
  exact h X h₂ ov vs (Po.mono k₂ po) pv A _ Q E R rfl ((k.keeps k₁).keeps k₂) (there_keeps (there_keeps S.1 k₁) k₂) fun v h'' tk' kp' p => c v h'' tk' (fun b o q => kp' b o (k₂ b o (k₁ b o q))) p

/-! ### displays -/
theorem seq_new {X : XS} {h : Heap} {cls : String} {Ps : List HV} {vs : List Value} (hX : ∀ b, X b → (h.get? b).isSome = true) (hi : All2 (fun (P : WV) v => P.p X h v) (Ps.map HV.w) vs) :
    (TSeq cls Ps).p X (h.push { cls := .type cls, data := .seq vs.toArray }) (.ref h.objs.size) := by
  refine ⟨⟨_, rfl, fun q => ?_⟩, _, vs.toArray, 0, rfl, Heap.get?_push_size _ rfl, ?_⟩
  · have := hX _ q
    rw [Heap.get?_none_of_le (Nat.le_refl _)] at this; cases this
  · have := All2.map_left.mp hi
    exact this.imp fun P v hv => P.frame (fun b o _ e => Heap.get?_push_of_some _ e) hv

theorem ev_tuple {es : List Expr} {k : Nat} {pos : Pos} {Ps : List HV} (he : EvL prog w K env r ρ pos es (Ps.map HV.w)) (hsz : Ps.length ≤ sizeLine := by decide) : Ev prog w K env r ρ (.Tuple es k pos) (TTup Ps) := by
  intro A s X Q E R k' S c
  refine PyProof.Rows.Tuple_ (he.run A s X _ _ R k' S fun vs h₁ t₁ k₁ p₁ => ?_)
  have hl := p₁.length
  rw [List.length_map] at hl
  refine wpAny_newObj_type (c _ _ _ (fun b o q => Heap.get?_push_of_some _ (k₁ b o q)) (seq_new (there_keeps S.1 k₁) p₁)) (by show vs.toArray.size ≤ sizeLine; rw [List.size_toArray]; lia)
theorem ev_list {es : List Expr} {pos : Pos} {Ps : List HV} (he : EvL prog w K env r ρ pos es (Ps.map HV.w)) (hsz : Ps.length ≤ sizeLine := by decide) : Ev prog w K env r ρ (.List es pos) (TList Ps) := by
  intro A s X Q E R k' S c
  refine PyProof.Rows.List_ (he.run A s X _ _ R k' S fun vs h₁ t₁ k₁ p₁ => ?_)
  have hl := p₁.length
  rw [List.length_map] at hl
  refine wpAny_newObj_type (c _ _ _ (fun b o q => Heap.get?_push_of_some _ (k₁ b o q)) (seq_new (there_keeps S.1 k₁) p₁)) (by show vs.toArray.size ≤ sizeLine; rw [List.size_toArray]; lia)

/-! ### items -/
theorem ev_subscr {a i : Expr} {pos : Pos} {Pa Pi P : WV} {T id : String} (ha : Ev prog w K env r ρ a Pa) (hi : Ev prog w K env r ρ i Pi)
    (hT : ∀ X (s : Shared) v, Pa.p X s.heap v → s.TypeIs v T) (hl : typeLookup (.type T) "__getitem__" = pure (some (.builtin id)))
    (h : ∀ X hh va vi, Pa.p X hh va → Pi.p X hh vi → Vl prog w K r X hh (getItem va vi) (fun v h' => P.p X h' v))
    (hs : ∀ va vi, ∃ ops, subscripted i false va vi = operate ops (getItem va vi) := by intro a b; exact ⟨_, rfl⟩) :
    Ev prog w K env r ρ (.Subscript a i pos) P := by
  intro A s X Q E R k S c
  refine PyProof.Rows.Subscript_ (two_ops ha hi R k S fun va vi h' tk kp kK S' pa pi => ?_)
  obtain ⟨ops, hops⟩ := hs va vi
  exact PyProof.Rows.tail_any (hT X { s with heap := h', toks := tk } va pa) hl (h X h' va vi pa pi A _ Q E R rfl kK S'.1 fun v h'' tk' kp' pv => c v h'' tk' (fun b o e => kp' b o (kp b o e)) pv) hops

theorem LSeqP.isList {Ps : List HV} {X : XS} {h : Heap} {v : Value} (x : LSeqP "list" Ps X h v) : ∃ a vs, v = .ref a ∧ h.IsList a vs ∧ h.PlainList a vs ∧ All2 (fun (P : HV) u => P.p X h u) Ps vs.toList :=
  let ⟨a, vs, n, e, ho, hi⟩ := x; ⟨a, vs, e, ⟨_, ho, rfl, n, rfl⟩, ⟨n, ho⟩, hi⟩
theorem LSeqP.isTup {Ps : List HV} {X : XS} {h : Heap} {v : Value} (x : LSeqP "tuple" Ps X h v) : ∃ a vs, v = .ref a ∧ PyProof.Rows.IsTup h a vs ∧ All2 (fun (P : HV) u => P.p X h u) Ps vs.toList :=
  let ⟨a, vs, n, e, ho, hi⟩ := x; ⟨a, vs, e, ⟨_, ho, rfl, n, rfl⟩, hi⟩

theorem ev_item_list {a i : Expr} {pos : Pos} {Ps : List HV} {P : HV} {k : Int} (ha : Ev prog w K env r ρ a (LSeq "list" Ps)) (hi : Ev prog w K env r ρ i (TInt k)) (h0 : 0 ≤ k) (hk : Ps[k.toNat]? = some P) (hf : k < 2 ^ 63)
    (hs : ∀ va vi, ∃ ops, subscripted i false va vi = operate ops (getItem va vi) := by intro a b; exact ⟨_, rfl⟩) :
    Ev prog w K env r ρ (.Subscript a i pos) P := by
  refine ev_subscr (T := "list") ha hi (fun X s v p => ?_) slot_list_getitem.lookup (fun X hh va vi pa pi => ?_) hs
  · obtain ⟨a, vs, rfl, hl, _⟩ := LSeqP.isList p; exact hl.typeIs
  · obtain ⟨t, rfl⟩ := pi
    intro A s Q E R e kK hX c
    subst e
    obtain ⟨a, vs, rfl, hl, _, hi⟩ := LSeqP.isList pa
    obtain ⟨u, hu, hp⟩ := hi.at hk
    exact wpAny_getItem_list hl h0 hf (by simpa using hu) (c u s.heap s.toks (fun _ _ q => q) hp)
theorem ev_item_tup {a i : Expr} {pos : Pos} {Ps : List HV} {P : HV} {k : Int} (ha : Ev prog w K env r ρ a (LSeq "tuple" Ps)) (hi : Ev prog w K env r ρ i (TInt k)) (h0 : 0 ≤ k) (hk : Ps[k.toNat]? = some P) (hf : k < 2 ^ 63)
    (hs : ∀ va vi, ∃ ops, subscripted i false va vi = operate ops (getItem va vi) := by intro a b; exact ⟨_, rfl⟩) :
    Ev prog w K env r ρ (.Subscript a i pos) P := by
  refine ev_subscr (T := "tuple") ha hi (fun X s v p => ?_) PyProof.Rows.slot_tuple_getitem.lookup (fun X hh va vi pa pi => ?_) hs
  · obtain ⟨a, vs, rfl, hl, _⟩ := LSeqP.isTup p; exact hl.typeIs
  · obtain ⟨t, rfl⟩ := pi
    intro A s Q E R e kK hX c
    subst e
    obtain ⟨a, vs, rfl, hl, hi⟩ := LSeqP.isTup pa
    obtain ⟨u, hu, hp⟩ := hi.at hk
    have hlt : k.toNat < vs.size := by
      have := (List.getElem?_eq_some_iff.mp hu).1; simpa using this
    refine PyProof.Rows.getItem_tuple (j := k.toNat) (x := u) hl (by lia) hf ?_ (by simpa using hu) (c u s.heap s.toks (fun _ _ q => q) hp)
    have e1 : ¬ k < 0 := by lia
    have e2 : k < (vs.size : Int) := by lia
    simp [seqIndex?, e1, e2, h0]
end
end Mine

namespace Mine
open PySem PySem.Calls
open Builtin Builtin.Str

section
variable {prog : Program} {w : World} {K : PM} {gl : List (Str × Value)} {env : Env} {r : Nat} {ρ : Ctx}

/-! ### texts -/
theorem ev_addS {a b : Expr} {pos : Pos} {x y : Str} (ha : Ev prog w K env r ρ a (TStr x)) (hb : Ev prog w K env r ρ b (TStr y)) (hsz : x.length + y.length ≤ sizeLine) :
    Ev prog w K env r ρ (.BinOp a .Add b pos) (TStr (x ++ y)) := by
  refine ev_bin ha hb ?_
  rintro X hh va vb ⟨t, rfl⟩ ⟨u, rfl⟩ A s Q E R e kK hX c
  exact PyProof.Rows.add_str (fun t' tk => c _ s.heap tk (fun _ _ q => q) ⟨_, rfl⟩) hsz

section
variable {a b : Expr} {pos : Pos} {x y : Str} (ha : Ev prog w K env r ρ a (TStr x)) (hb : Ev prog w K env r ρ b (TStr y))
include ha hb
theorem tst_neS (hm : behindInMarks .NotEq b = false := by with_unfolding_all rfl) : Tst prog w K env r ρ (.Compare a [.NotEq] [b] pos) (decide (x ≠ y)) := by
  refine tst_cmp ha hb ?_ hm
  rintro X hh va vb ⟨t, rfl⟩ ⟨u, rfl⟩ A s Q E R e kK hX c
  refine PyProof.Rows.ne_str (c _ s.heap s.toks (fun _ _ q => q) ?_)
  by_cases q : x = y
  · subst q; simp
  · simp [q]
theorem tst_inS (hm : behindInMarks .In b = false := by with_unfolding_all rfl) : Tst prog w K env r ρ (.Compare a [.In] [b] pos) (Txt.contains y x) := by
  refine tst_cmp ha hb ?_ hm
  rintro X hh va vb ⟨t, rfl⟩ ⟨u, rfl⟩ A s Q E R e kK hX c
  exact PyProof.Rows.in_str (c _ s.heap s.toks (fun _ _ q => q) rfl)
end

theorem ev_itemS {a i : Expr} {pos : Pos} {x : Str} {k : Int} (ha : Ev prog w K env r ρ a (TStr x)) (hi : Ev prog w K env r ρ i (TInt k)) (h0 : 0 ≤ k) (h1 : k < x.length) (h2 : k < 2 ^ 63)
    (hs : ∀ va vi, ∃ ops, subscripted i false va vi = operate ops (getItem va vi) := by intro a b; exact ⟨_, rfl⟩) :
    Ev prog w K env r ρ (.Subscript a i pos) (TStr ⟨#[x.cps.getD k.toNat 0]⟩) := by
  refine ev_subscr (T := "str") ha hi (fun X s v p => ?_) F.slot_str_getitem.lookup (fun X hh va vi pa pi => ?_) hs
  · obtain ⟨t, rfl⟩ := p; exact typeIs_str _ _ _
  · obtain ⟨t, rfl⟩ := pa
    obtain ⟨u, rfl⟩ := pi
    intro A s Q E R e kK hX c
    have hlt : k.toNat < x.cps.size := by
      have : k < (x.cps.size : Int) := h1
      lia
    refine PyProof.Rows.getItem_str (c := x.cps.getD k.toNat 0) ?_ ?_ (c _ s.heap _ (fun _ _ q => q) ⟨_, rfl⟩)
    · simp only [Bool.or_eq_false_iff, decide_eq_false_iff_not]
      constructor <;> lia
    · have e1 : ¬ k < 0 := by lia
      have e2 : k < (x.length : Int) := h1
      simp [seqIndex?, e1, e2, h0, hlt]

/-! ### cuts -/
noncomputable def TCut (l u st : Option Int) : WV where
  p _ h v := ∃ a lv uv sv, v = .ref a ∧ h.IsSliceOf a lv uv sv ∧ IsPart lv l ∧ IsPart uv u ∧ IsPart sv st
  mono := by
    rintro X h h' v k ⟨a, lv, uv, sv, rfl, ⟨o, ho, q⟩, r⟩
    exact ⟨a, lv, uv, sv, rfl, ⟨o, k _ _ ho, q⟩, r⟩

noncomputable def EvO (prog : Program) (w : World) (K : PM) (env : Env) (r : Nat) (ρ : Ctx) : Option Expr → Option Int → Prop
  | none, none => True
  | some e, some i => Ev prog w K env r ρ e (TInt i)
  | _, _ => False

theorem evo_run {e : Option Expr} {i : Option Int} (h : EvO prog w K env r ρ e i) {A : Around} {s : Shared} {X : XS} {Q : Value → Shared → Prop} {E : Value → Shared → Prop} (R : Room A r) (k : Sub K s.heap) (S : Sat env ρ X s.heap)
    (c : ∀ v h' tk, (∀ b o, s.heap.get? b = some o → h'.get? b = some o) → IsPart v i → Q v { s with heap := h', toks := tk }) : wpAny (model prog w) A (evalPart e env) Q E s := by
  cases e with
  | none =>
    cases i with
    | none => exact wpAny_evalPart_none (c _ s.heap s.toks (fun _ _ q => q) .none)
    | some i => exact h.elim
  | some e =>
    cases i with
    | none => exact h.elim
    | some i =>
      refine wpAny_evalPart_some (h A s X _ _ R k S ?_)
      rintro v h' tk kp ⟨t, rfl⟩
      exact c _ h' tk kp (.int i t)

theorem ev_cut {l u st : Option Expr} {p : Pos} {lo hi sp : Option Int} (hl : EvO prog w K env r ρ l lo) (hu : EvO prog w K env r ρ u hi) (hst : EvO prog w K env r ρ st sp) :
    Ev prog w K env r ρ (.Slice l u st p) (TCut lo hi sp) := by
  intro A s X Q E R k S c
  refine wpAny_Slice (evo_run hl R k S fun v₁ h₁ t₁ k₁ p₁ => ?_)
  refine evo_run hu R (k.keeps k₁) (S.keeps k₁) fun v₂ h₂ t₂ k₂ p₂ => ?_
  refine evo_run hst R ((k.keeps k₁).keeps k₂) ((S.keeps k₁).keeps k₂) fun v₃ h₃ t₃ k₃ p₃ => ?_
  exact c _ _ _ (fun b o q => Heap.get?_push_of_some _ (k₃ b o (k₂ b o (k₁ b o q)))) ⟨_, v₁, v₂, v₃, rfl, .new _ _ _ _, p₁, p₂, p₃⟩

theorem isPart_val {v : Value} {i : Option Int} (h : IsPart v i) : ∃ x : Option (Int × Tok), v = partValue x ∧ x.map (·.1) = i := by
  cases h with
  | none => exact ⟨none, rfl, rfl⟩
  | int i t => exact ⟨some (i, t), rfl, rfl⟩

theorem ev_cutS {a : Expr} {l u : Option Expr} {p pos : Pos} {x : Str} {lo hi : Option Int} (ha : Ev prog w K env r ρ a (TStr x)) (hl : EvO prog w K env r ρ l lo) (hu : EvO prog w K env r ρ u hi) (hsz : x.length ≤ sizeLine) :
    Ev prog w K env r ρ (.Subscript a (.Slice l u none p) pos) (TStr (Txt.slice x lo hi)) := by
  refine ev_subscr (T := "str") ha (ev_cut (st := none) (sp := none) hl hu trivial) (fun X s v p => ?_) F.slot_str_getitem.lookup (fun X hh va vi pa pi => ?_)
  · obtain ⟨t, rfl⟩ := p; exact typeIs_str _ _ _
  · obtain ⟨t, rfl⟩ := pa
    obtain ⟨sl, lv, uv, sv, rfl, hS, p1, p2, p3⟩ := pi
    intro A s Q E R e kK hX c
    subst e
    obtain ⟨ol, rfl, el⟩ := isPart_val p1
    obtain ⟨ou, rfl, eu⟩ := isPart_val p2
    cases p3
    refine wpAny_getItem_str_slice (l := ol) (u := ou) (st := none) hS rfl ?_
    unfold sliceMade slicePicked
    simp only [el, eu, Option.map_none, Option.getD_none]
    have hle : (strSliceIndices lo hi 1 x.length).length ≤ x.length := sliceIndices_le _ _ _
    have c' := fun t' k => c (.str (Txt.slice x lo hi) t') s.heap k (fun _ _ q => q) ⟨_, rfl⟩
    unfold Txt.slice at c'
    split
    · rename_i hc
      have := c' t s.toks
      rw [if_pos hc] at this
      exact this
    · rename_i hc
      have := c' s.toks (s.toks + 1)
      rw [if_neg hc] at this
      refine ⟨?_, this⟩
      show (List.filterMap _ (strSliceIndices lo hi 1 x.length)).toArray.size ≤ sizeLine
      rw [List.size_toArray]
      exact Nat.le_trans (List.length_filterMap_le _ _) (Nat.le_trans hle hsz)

/-! ### lengths -/
theorem ev_lenL {p pos : Pos} {a : Expr} {Ps : List HV} (kf : KF K gl) (hgl : env.globals = mainGlobals) (hbl : env.builtins = builtinsNs) (hk : env.scope.kind = .function) (ha : Ev prog w K env r ρ a (LSeq "list" Ps)) (hfit : Ps.length < 2 ^ 63)
    (hst : starEach [a] env = [(false, eval a env)] := by rfl) (hx : env.kindOf "len" = some .globalImplicit := by rfl) (hg : gl.lookup (Str.ofString "len") = none := by rfl) :
    Ev prog w K env r ρ (.Call (.Name "len" p) [a] [] pos) (TInt Ps.length) := by
  refine ev_call_b kf hgl hbl hk (fv := .builtin "len") (by first | rfl | decide +kernel) (by intro a h; cases h) (evl_cons ha evl_nil hst) ?_ hx hg
  rintro X hh vs pv
  obtain ⟨v, rfl, p⟩ := vs1 pv
  intro A s Q E R e kK hX c
  subst e
  obtain ⟨l, us, rfl, hl, _, hi⟩ := LSeqP.isList p
  have hn : us.size = Ps.length := by rw [hi.length]; simp
  exact call_len_list hl (by rw [hn]; lia) (c _ s.heap _ (fun _ _ q => q) ⟨s.toks + 1, by rw [hn]⟩)
end
end Mine

namespace Mine
open PySem PySem.Calls
open Builtin Builtin.Str

theorem gives_index_from (x y : Str) (i : Int) (t u v : Tok) (k : Nat) (rest : List Nat) (ho : occurrences x y (fromIndex x.length i) x.length 1 = k :: rest) :
    Gives («str.index» ⟨[.str x t, .str y u, .int i v], []⟩) (.int k) := by
  show Gives (match occurrences x y (fromIndex x.length i) (min x.length x.length) 1 with | i :: _ => retInt i | [] => (do rule "str.index.not-found"; raiseError "ValueError" "substring not found")) _
  rw [Nat.min_self, ho]
  exact .of_eq rfl

/-- what a predicate says as plain data -/
noncomputable def Rd (P : WV) (d : PyData) : Prop := ∀ X h v, P.p X h v → ∃ as, Reads h v d as
theorem rd_int {i : Int} : Rd (TInt i) (.int i) := by rintro X h v ⟨t, rfl⟩; exact ⟨_, .int i t⟩
theorem rd_str {x : Str} : Rd (TStr x) (.str x) := by rintro X h v ⟨t, rfl⟩; exact ⟨_, .str x t⟩
theorem rd_all {X : XS} {h : Heap} : ∀ {Ps : List HV} {ds : List PyData} {vs : List Value}, All2 (fun (P : HV) d => Rd P.w d) Ps ds → All2 (fun (P : HV) v => P.p X h v) Ps vs → ∃ as, ReadsAll h vs ds as
  | [], [], [], _, _ => ⟨_, .nil⟩
  | P :: Ps, d :: ds, v :: vs, ⟨a, b⟩, ⟨c, e⟩ => by
    obtain ⟨as, ra⟩ := a X h v c
    obtain ⟨bs, rb⟩ := rd_all b e
    exact ⟨_, .cons ra rb⟩
theorem rd_tup {Ps : List HV} {ds : List PyData} (h : All2 (fun (P : HV) d => Rd P.w d) Ps ds) : Rd (LSeq "tuple" Ps) (.tuple ds) := by
  rintro X hh v ⟨a, vs, n, rfl, ho, hi⟩
  obtain ⟨as, r⟩ := rd_all h hi
  exact ⟨_, .tuple ho rfl rfl r⟩
theorem rd_list {Ps : List HV} {ds : List PyData} (h : All2 (fun (P : HV) d => Rd P.w d) Ps ds) : Rd (LSeq "list" Ps) (.list ds) := by
  rintro X hh v ⟨a, vs, n, rfl, ho, hi⟩
  obtain ⟨as, r⟩ := rd_all h hi
  exact ⟨_, .list ho rfl rfl r⟩

section
variable {prog : Program} {w : World} {K : PM} {gl : List (Str × Value)} {env : Env} {r : Nat} {ρ : Ctx}

theorem lOf {cls : String} {Ps : List HV} {e : Expr} (h : Ev prog w K env r ρ e (TSeq cls Ps)) : Ev prog w K env r ρ e (LSeq cls Ps) := h.weaken fun _ _ _ p => p.2
theorem dOf {KK : Type} [DecidableEq KK] {knd : KeyKind prog w KK} {kvs : List (KK × HV)} {e : Expr} (h : Ev prog w K env r ρ e (TDict knd kvs)) : Ev prog w K env r ρ e (LDict knd kvs) := h.weaken fun _ _ _ p => p.2

/-! ### equal data -/
theorem tst_ned {a b : Expr} {pos : Pos} {Pa Pb : WV} {da db : PyData} (ha : Ev prog w K env r ρ a Pa) (hb : Ev prog w K env r ρ b Pb) (ra : Rd Pa da) (rb : Rd Pb db) (ca : da.canLay0 = true) (cb : db.canLay0 = true) (hd : da.depth ≤ 10 * r)
    (hm : behindInMarks .NotEq b = false := by with_unfolding_all rfl) : Tst prog w K env r ρ (.Compare a [.NotEq] [b] pos) (!PyData.eqv da db) := by
  refine tst_cmp ha hb ?_ hm
  intro X hh va vb pa pb A s Q E R e kK hX c
  subst e
  obtain ⟨as, r1⟩ := ra _ _ _ pa
  obtain ⟨bs, r2⟩ := rb _ _ _ pb
  exact SeqAt.compareNe_reads r1 r2 ca cb (by have := R.un; have : min da.depth db.depth ≤ da.depth := Nat.min_le_left _ _; lia) (c _ s.heap s.toks (fun _ _ q => q) rfl)

/-! ### str methods -/
section
variable {o a b : Expr} {apos pos : Pos} {x y : Str} {i : Int}
theorem strShape : ∀ (X : XS) (s : Shared) (v : Value), (TStr x).p X s.heap v → s.TypeIs v "str" ∧ ∀ a, v = .ref a → ∃ ob, s.heap.get? a = some ob ∧ ob.dict = none := by
  rintro X s v ⟨t, rfl⟩; exact ⟨typeIs_str _ _ _, fun a e => by cases e⟩
theorem ev_find (ho : Ev prog w K env r ρ o (TStr x)) (ha : Ev prog w K env r ρ a (TStr y)) (hst : starEach [a] env = [(false, eval a env)] := by rfl)
    (hbase : attributeBase o "find" env (eval o env) = eval o env := by rfl) (hline : (apos.endLine == pos.line) = true := by rfl) :
    Ev prog w K env r ρ (.Call (.Attribute o "find" apos) [a] [] pos) (TInt (Txt.find x y)) := by
  refine ev_meth F.plainAttrs_str F.slot_str_find F.type_str_find ho strShape (evl_cons ha evl_nil hst) ?_ hbase (by rw [hst]; rfl) hline
  rintro X hh ov vs ⟨t, rfl⟩ pv
  obtain ⟨v, rfl, ⟨u, e⟩⟩ := vs1 pv
  subst e
  intro A s Q E R e kK hX c
  exact SC.find (c _ s.heap _ (fun _ _ q => q) ⟨_, rfl⟩)
theorem ev_find3 (ho : Ev prog w K env r ρ o (TStr x)) (ha : Ev prog w K env r ρ a (TStr y)) (hb : Ev prog w K env r ρ b (TInt i)) (hst : starEach [a, b] env = [(false, eval a env), (false, eval b env)] := by rfl)
    (hst2 : starEach [b] env = [(false, eval b env)] := by rfl)
    (hbase : attributeBase o "find" env (eval o env) = eval o env := by rfl) (hline : (apos.endLine == pos.line) = true := by rfl) :
    Ev prog w K env r ρ (.Call (.Attribute o "find" apos) [a, b] [] pos) (TInt (Txt.find3 x y i)) := by
  refine ev_meth F.plainAttrs_str F.slot_str_find F.type_str_find ho strShape (evl_cons ha (evl_cons hb evl_nil hst2) (by rw [hst, hst2])) ?_ hbase (by rw [hst]; rfl) hline
  rintro X hh ov vs ⟨t, rfl⟩ pv
  obtain ⟨v, v', rfl, ⟨u, e⟩, ⟨u', e'⟩⟩ := vs2 pv
  subst e; subst e'
  intro A s Q E R e kK hX c
  exact SC.find3 (c _ s.heap _ (fun _ _ q => q) ⟨_, rfl⟩)
theorem ev_index (ho : Ev prog w K env r ρ o (TStr x)) (ha : Ev prog w K env r ρ a (TStr y)) {k : Nat} (hk : Txt.find x y = k) (hst : starEach [a] env = [(false, eval a env)] := by rfl)
    (hbase : attributeBase o "index" env (eval o env) = eval o env := by rfl) (hline : (apos.endLine == pos.line) = true := by rfl) :
    Ev prog w K env r ρ (.Call (.Attribute o "index" apos) [a] [] pos) (TInt k) := by
  refine ev_meth F.plainAttrs_str F.slot_str_index F.type_str_index ho strShape (evl_cons ha evl_nil hst) ?_ hbase (by rw [hst]; rfl) hline
  rintro X hh ov vs ⟨t, rfl⟩ pv
  obtain ⟨v, rfl, ⟨u, e⟩⟩ := vs1 pv
  subst e
  intro A s Q E R e kK hX c
  unfold Txt.find at hk
  cases hoc : occurrences x y 0 x.length 1 with
  | nil => rw [hoc] at hk; simp only at hk; lia
  | cons j rest =>
    rw [hoc] at hk
    simp only at hk
    obtain rfl : j = k := by lia
    exact SC.index hoc (c _ s.heap _ (fun _ _ q => q) ⟨_, rfl⟩)
theorem ev_index3 (ho : Ev prog w K env r ρ o (TStr x)) (ha : Ev prog w K env r ρ a (TStr y)) (hb : Ev prog w K env r ρ b (TInt i)) {k : Nat} (hk : Txt.find3 x y i = k) (hst : starEach [a, b] env = [(false, eval a env), (false, eval b env)] := by rfl)
    (hst2 : starEach [b] env = [(false, eval b env)] := by rfl)
    (hbase : attributeBase o "index" env (eval o env) = eval o env := by rfl) (hline : (apos.endLine == pos.line) = true := by rfl) :
    Ev prog w K env r ρ (.Call (.Attribute o "index" apos) [a, b] [] pos) (TInt k) := by
  refine ev_meth F.plainAttrs_str F.slot_str_index F.type_str_index ho strShape (evl_cons ha (evl_cons hb evl_nil hst2) (by rw [hst, hst2])) ?_ hbase (by rw [hst]; rfl) hline
  rintro X hh ov vs ⟨t, rfl⟩ pv
  obtain ⟨v, v', rfl, ⟨u, e⟩, ⟨u', e'⟩⟩ := vs2 pv
  subst e; subst e'
  intro A s Q E R e kK hX c
  unfold Txt.find3 at hk
  cases hoc : occurrences x y (fromIndex x.length i) x.length 1 with
  | nil => rw [hoc] at hk; simp only at hk; lia
  | cons j rest =>
    rw [hoc] at hk
    simp only at hk
    obtain rfl : j = k := by lia
    exact call_gives F.slot_str_index (typeIs_str _ _ _) F.entry_str_index (F.args_str_index_3 _ _ _) (gives_index_from x y i t u u' j rest hoc) (c _ s.heap _ (fun _ _ q => q) ⟨_, rfl⟩)

theorem strsPlain {X : XS} {h : Heap} : ∀ (l : List (Str × Tok)), All2 (fun (P : HV) v => P.p X h v) ((l.map (·.1)).map TStr) (strValues l)
  | [] => trivial
  | (x, t) :: r => ⟨⟨t, rfl⟩, strsPlain r⟩
theorem split_new {X : XS} {h : Heap} (hX : ∀ b, X b → (h.get? b).isSome = true) {l : List (Str × Tok)} {ts : List Str} (e : l.map (·.1) = ts) :
    (TList (ts.map TStr)).p X (h.push { cls := .type "list", data := .seq (strValues l).toArray }) (.ref h.objs.size) := by
  subst e
  refine ⟨⟨_, rfl, fun q => ?_⟩, _, _, 0, rfl, Heap.get?_push_size _ rfl, strsPlain l⟩
  have := hX _ q
  rw [Heap.get?_none_of_le (Nat.le_refl _)] at this; cases this
theorem ev_split (ho : Ev prog w K env r ρ o (TStr x)) (ha : Ev prog w K env r ρ a (TStr y)) (hy : (y.length == 0) = false) (hsz : x.length + 2 ≤ sizeLine)
    (hst : starEach [a] env = [(false, eval a env)] := by rfl)
    (hbase : attributeBase o "split" env (eval o env) = eval o env := by rfl) (hline : (apos.endLine == pos.line) = true := by rfl) :
    Ev prog w K env r ρ (.Call (.Attribute o "split" apos) [a] [] pos) (TList ((Txt.split x y).map TStr)) := by
  refine ev_meth F.plainAttrs_str F.slot_str_split F.type_str_split ho strShape (evl_cons ha evl_nil hst) ?_ hbase (by rw [hst]; rfl) hline
  rintro X hh ov vs ⟨t, rfl⟩ pv
  obtain ⟨v, rfl, ⟨u, e⟩⟩ := vs1 pv
  subst e
  intro A s Q E R e kK hX c
  have fin : ∀ (l : List (Str × Tok)) k, l.map (·.1) = Txt.split x y → Q (.ref s.heap.objs.size) { s with heap := s.heap.push { cls := .type "list", data := .seq (strValues l).toArray }, toks := k } :=
    fun l k e => c _ _ k (fun b o q => Heap.get?_push_of_some _ q) (split_new hX e)
  cases h1 : (decide (x.length < y.length) || decide (strKind x < strKind y))
  · cases hf : (occurrences x y 0 x.length (x.length + 1)).isEmpty
    · refine call_meets F.slot_str_split (typeIs_str _ _ _) F.entry_str_split (F.args_str_split_2 _ _) (meets_str_split_sep x y t u h1 hy hf (by lia) ?_) ?_
      · have e1 := StrLaws.occ_length_le x y 0 x.length (x.length + 1)
        rw [length_partsBetween]; lia
      · show wants Q E _ { s with toks := _, heap := s.heap.push { cls := .type "list", data := .seq (strsFrom s.toks (partsBetween x (occurrences x y 0 x.length (x.length + 1)) y.length)).toArray } }
        rw [strsFrom_eq]
        exact fin (numbered s.toks _) _ ((numbered_texts _ _).trans ((if_neg (ne_true_of_eq_false h1)).trans (if_neg (ne_true_of_eq_false hf))).symm)
    · exact call_meets F.slot_str_split (typeIs_str _ _ _) F.entry_str_split (F.args_str_split_2 _ _) (meets_str_split_not_found x y t u h1 hy hf)
        (fin [(x, t)] s.toks ((if_neg (ne_true_of_eq_false h1)).trans (if_pos hf)).symm)
  · exact call_meets F.slot_str_split (typeIs_str _ _ _) F.entry_str_split (F.args_str_split_2 _ _) (meets_str_split_cannot_occur x y t u h1) (fin [(x, t)] s.toks (if_pos h1).symm)

theorem strsOf {X : XS} {h : Heap} : ∀ {ts : List Str} {vs : List Value}, All2 (fun (P : HV) v => P.p X h v) (ts.map TStr) vs → ∃ l : List (Str × Tok), vs = strValues l ∧ l.map (·.1) = ts
  | [], [], _ => ⟨[], rfl, rfl⟩
  | x :: ts, v :: vs, ⟨⟨t, e⟩, q⟩ => by
    obtain ⟨l, e1, e2⟩ := strsOf q
    exact ⟨(x, t) :: l, by rw [e, e1]; rfl, by rw [List.map_cons, e2]⟩
theorem ev_join {ts : List Str} (ho : Ev prog w K env r ρ o (TStr x)) (ha : Ev prog w K env r ρ a (LSeq "list" (ts.map TStr))) (hok : JoinOk x ts = true)
    (hst : starEach [a] env = [(false, eval a env)] := by rfl)
    (hbase : attributeBase o "join" env (eval o env) = eval o env := by rfl) (hline : (apos.endLine == pos.line) = true := by rfl) :
    Ev prog w K env r ρ (.Call (.Attribute o "join" apos) [a] [] pos) (TStr (Txt.join x ts)) := by
  refine ev_meth F.plainAttrs_str F.slot_str_join F.type_str_join ho strShape (evl_cons ha evl_nil hst) ?_ hbase (by rw [hst]; rfl) hline
  rintro X hh ov vs ⟨t, rfl⟩ pv
  obtain ⟨v, rfl, p⟩ := vs1 pv
  intro A s Q E R e kK hX c
  subst e
  obtain ⟨D, us, rfl, hl, _, hi⟩ := LSeqP.isList p
  obtain ⟨l, e1, e2⟩ := strsOf hi
  have e3 : us = (strValues l).toArray := by rw [← e1]
  exact SC.join (e3 ▸ hl) e2 hok fun t' k => c _ s.heap k (fun _ _ q => q) ⟨_, rfl⟩
end
end
end Mine

namespace Mine
open PySem PySem.Calls
open Builtin Builtin.Str
open PyProof.Rows (IntsAre)

/-! ### ints in a list -/
theorem intItemsOf {X : XS} {h : Heap} : ∀ {ns : List Int} {vs : List Value}, All2 (fun (P : HV) v => P.p X h v) (ns.map TInt) vs → ∃ xs : List (Int × Tok), vs = xs.map (fun p => Value.int p.1 p.2) ∧ xs.map (·.1) = ns
  | [], [], _ => ⟨[], rfl, rfl⟩
  | n :: ns, v :: vs, ⟨⟨t, e⟩, q⟩ => by
    obtain ⟨xs, e1, e2⟩ := intItemsOf q
    exact ⟨(n, t) :: xs, by rw [e, e1]; rfl, by rw [List.map_cons, e2]⟩
theorem intListOf {X : XS} {h : Heap} {ns : List Int} {v : Value} (p : LSeqP "list" (ns.map TInt) X h v) : ∃ a xs, v = .ref a ∧ h.IsList a (intItems xs) ∧ xs.toList.map (·.1) = ns := by
  obtain ⟨a, vs, rfl, hl, _, hi⟩ := LSeqP.isList p
  obtain ⟨xs, e1, e2⟩ := intItemsOf hi
  refine ⟨a, xs.toArray, rfl, ?_, by simpa using e2⟩
  have : vs = intItems xs.toArray := by
    obtain ⟨l⟩ := vs
    simp only at e1
    subst e1
    simp [intItems]
  exact this ▸ hl
theorem intsAreOf {X : XS} {h : Heap} : ∀ {ns : List Int} {vs : List Value}, All2 (fun (P : HV) v => P.p X h v) (ns.map TInt) vs → IntsAre vs ns
  | [], [], _ => .nil
  | n :: ns, v :: vs, ⟨⟨t, e⟩, q⟩ => by rw [e]; exact .cons n t (intsAreOf q)

section
variable {prog : Program} {w : World} {K : PM} {gl : List (Str × Value)} {env : Env} {r : Nat} {ρ : Ctx}

theorem vl_sum {X : XS} {hh : Heap} {v : Value} {ns : List Int} (p : LSeqP "list" (ns.map TInt) X hh v) : Vl prog w K r X hh (call (.builtin "sum") [v]) (fun v _ => ∃ t, v = .int ns.sum t) := by
  intro A s Q E R e kK hX c
  subst e
  obtain ⟨a, xs, rfl, hl, e2⟩ := intListOf p
  refine sum_intListG R.hh hl fun h' tk t' hk => c _ h' tk hk ⟨t', ?_⟩
  rw [preSum_eq, List.take_of_length_le (by simp), e2]
theorem vl_max {X : XS} {hh : Heap} {v : Value} {ns : List Int} {M : Int} (p : LSeqP "list" (ns.map TInt) X hh v) (h1 : M ∈ ns) (h2 : ∀ a ∈ ns, a ≤ M) : Vl prog w K r X hh (call (.builtin "max") [v]) (fun v _ => ∃ t, v = .int M t) := by
  intro A s Q E R e kK hX c
  subst e
  obtain ⟨a, xs, rfl, hl, e2⟩ := intListOf p
  have hsz : 0 < xs.size := by
    rcases Nat.eq_zero_or_pos xs.size with q | q
    · have : xs.toList = [] := List.length_eq_zero_iff.mp (by simpa using q)
      rw [this] at e2; subst e2; cases h1
    · exact q
  refine max_intList R.hh hl hsz fun v h' tk hv hk => ?_
  obtain ⟨t, rfl⟩ := intItems_at hv
  refine c _ h' tk hk ⟨t, ?_⟩
  obtain ⟨b1, b2⟩ := argBest_gt (numAt xs) (xs.size - 1)
  congr 1
  refine Int.le_antisymm (h2 _ ?_) ?_
  · rw [← e2, numAt_eq]; exact getD_mem (by rw [List.length_map, Array.length_toList]; lia)
  · rw [← e2] at h1
    obtain ⟨j, hj, rfl⟩ := mem_getD h1
    rw [List.length_map, Array.length_toList] at hj
    rw [← numAt_eq]; exact b2 j (by lia)
theorem vl_min {X : XS} {hh : Heap} {v : Value} {ns : List Int} {M : Int} (p : LSeqP "list" (ns.map TInt) X hh v) (h1 : M ∈ ns) (h2 : ∀ a ∈ ns, M ≤ a) : Vl prog w K r X hh (call (.builtin "min") [v]) (fun v _ => ∃ t, v = .int M t) := by
  intro A s Q E R e kK hX c
  subst e
  obtain ⟨a, xs, rfl, hl, e2⟩ := intListOf p
  have hsz : 0 < xs.size := by
    rcases Nat.eq_zero_or_pos xs.size with q | q
    · have : xs.toList = [] := List.length_eq_zero_iff.mp (by simpa using q)
      rw [this] at e2; subst e2; cases h1
    · exact q
  refine min_intList R.hh hl hsz fun v h' tk hv hk => ?_
  obtain ⟨t, rfl⟩ := intItems_at hv
  refine c _ h' tk hk ⟨t, ?_⟩
  obtain ⟨b1, b2⟩ := argBest_lt (numAt xs) (xs.size - 1)
  congr 1
  refine Int.le_antisymm ?_ (h2 _ ?_)
  · rw [← e2] at h1
    obtain ⟨j, hj, rfl⟩ := mem_getD h1
    rw [List.length_map, Array.length_toList] at hj
    rw [← numAt_eq]; exact b2 j (by lia)
  · rw [← e2, numAt_eq]; exact getD_mem (by rw [List.length_map, Array.length_toList]; lia)
theorem vl_max2 {X : XS} {hh : Heap} {va vb : Value} {a b : Int} (ha : ∃ t, va = .int a t) (hb : ∃ t, vb = .int b t) : Vl prog w K r X hh (call (.builtin "max") [va, vb]) (fun v _ => ∃ t, v = .int (max a b) t) := by
  obtain ⟨t, rfl⟩ := ha; obtain ⟨u, rfl⟩ := hb
  intro A s Q E R e kK hX c
  refine max_two_ints R.hh fun h' tk hk => c _ h' tk hk ?_
  by_cases q : b > a
  · rw [if_pos q]; exact ⟨u, by congr 1; lia⟩
  · rw [if_neg q]; exact ⟨t, by congr 1; lia⟩
theorem vl_divmod {X : XS} {hh : Heap} {va vb : Value} {a b : Int} (ha : ∃ t, va = .int a t) (hb : ∃ t, vb = .int b t) (h0 : b ≠ 0) (hp : Builtin.divisionGoesByPylong a b = false) :
    Vl prog w K r X hh (call (.builtin "divmod") [va, vb]) (fun v h' => (TTup [TInt (a.fdiv b), TInt (a.fmod b)]).p X h' v) := by
  obtain ⟨t, rfl⟩ := ha; obtain ⟨u, rfl⟩ := hb
  intro A s Q E R e kK hX c
  refine PyProof.Rows.divmod_int h0 (c _ _ _ (fun b o q => Heap.get?_push_of_some _ q) ?_) (.inl hp)
  exact seq_new (Ps := [TInt (a.fdiv b), TInt (a.fmod b)]) (vs := [_, _]) hX ⟨⟨_, rfl⟩, ⟨_, rfl⟩, trivial⟩
theorem vl_isi {X : XS} {hh : Heap} {v : Value} {i : Int} (h : ∃ t, v = .int i t) : Vl prog w K r X hh (call (.builtin "isinstance") [v, .type "tuple"]) (fun v _ => v = .bool false) := by
  obtain ⟨t, rfl⟩ := h
  exact fun A s Q E R e kK hX c => IsiPair.int_tuple (c _ s.heap _ (fun _ _ q => q) rfl)
theorem vl_strI {X : XS} {hh : Heap} {v : Value} {i : Int} (h : ∃ t, v = .int i t) (hi : i.natAbs.log2 < 1920) : Vl prog w K r X hh (call (.type "str") [v]) (fun v _ => ∃ t, v = .str (toString i) t) := by
  obtain ⟨t, rfl⟩ := h
  exact fun A s Q E R e kK hX c => P.str_of_int hi (c _ s.heap _ (fun _ _ q => q) ⟨_, rfl⟩)
theorem vl_intS {X : XS} {hh : Heap} {v : Value} {x : Str} {n : Int} (h : ∃ t, v = .str x t) (hn : PySem.intText? x = some n) (hl : x.length ≤ 640) : Vl prog w K r X hh (call (.type "int") [v]) (fun v _ => ∃ t, v = .int n t) := by
  obtain ⟨t, rfl⟩ := h
  exact fun A s Q E R e kK hX c => PySem.W.KIN.call_text hn hl (c _ s.heap _ (fun _ _ q => q) ⟨_, rfl⟩)
theorem vl_ord {X : XS} {hh : Heap} {v : Value} {c₀ : Nat} (h : ∃ t, v = .str ⟨#[c₀]⟩ t) : Vl prog w K r X hh (call (.builtin "ord") [v]) (fun v _ => ∃ t, v = .int c₀ t) := by
  obtain ⟨t, rfl⟩ := h
  exact fun A s Q E R e kK hX c => P.ord_of_char (c _ s.heap _ (fun _ _ q => q) ⟨_, rfl⟩)
theorem vl_bytes {X : XS} {hh : Heap} {v : Value} {ns : List Int} (p : LSeqP "list" (ns.map TInt) X hh v) (hr : ∀ n ∈ ns, 0 ≤ n ∧ n < 256) (hz : ns.length ≤ sizeLine) : Vl prog w K r X hh (call (.type "bytes") [v]) (fun v _ => ∃ t, v = .bytes (byteArr ns) t) := by
  intro A s Q E R e kK hX c
  subst e
  obtain ⟨a, vs, rfl, hl, _, hi⟩ := LSeqP.isList p
  have hlen := hi.length
  rw [List.length_map] at hlen
  exact call_bytes_ints (vs := vs.toList) (by simpa using hl) (intsAreOf hi) hr (by lia) R.hh fun h' t k hk => c _ h' k hk ⟨t, rfl⟩
theorem vl_bits {X : XS} {hh : Heap} {v : Value} {i : Int} (h : ∃ t, v = .int i t) : Vl prog w K r X hh (call (.builtin "int.bit_length") [v]) (fun v _ => ∃ t, v = .int (Builtin.Int.intBits i) t) := by
  obtain ⟨t, rfl⟩ := h
  exact fun A s Q E R e kK hX c => call_gives F.slot_int_bit_length (typeIs_int s i t) F.entry_int_bit_length (F.args_int_bit_length_1 _) (AutoIntG2.int_bit_length_int_0 i t) (c _ s.heap _ (fun _ _ q => q) ⟨_, rfl⟩)

theorem ev_bits {o : Expr} {apos pos : Pos} {i : Int} (ho : Ev prog w K env r ρ o (TInt i))
    (hbase : attributeBase o "bit_length" env (eval o env) = eval o env := by rfl) (hline : (apos.endLine == pos.line) = true := by rfl) :
    Ev prog w K env r ρ (.Call (.Attribute o "bit_length" apos) [] [] pos) (TInt (Builtin.Int.intBits i)) := by
  refine ev_meth (Ps := []) F.plainAttrs_int F.slot_int_bit_length F.type_int_bit_length ho ?_ evl_nil ?_ hbase rfl hline
  · rintro X s v ⟨t, rfl⟩; exact ⟨typeIs_int _ _ _, fun a e => by cases e⟩
  · rintro X hh ov vs po pv
    match vs, pv with
    | [], _ => exact vl_bits po

/-! ### tests -/
theorem tst_or {a b : Expr} {pos : Pos} {x y : Bool} (ha : Tst prog w K env r ρ a x) (hb : x = false → Tst prog w K env r ρ b y) : Tst prog w K env r ρ (.BoolOp .Or [a, b] pos) (x || y) := by
  intro A s X Q E R k S c
  refine wpAny_isTrue_BoolOp (wpAny_allTrue_Or_cons (ha A s X _ _ R k S fun h' tk kp => ?_))
  cases x with
  | true => exact c h' tk kp
  | false =>
    simp only [Bool.false_eq_true, if_false]
    refine wpAny_allTrue_Or_cons (hb rfl A _ X _ _ R (k.keeps kp) (S.keeps kp) fun h'' tk' kp' => ?_)
    cases y with
    | true => exact c h'' tk' fun b o q => kp' b o (kp b o q)
    | false =>
      simp only [Bool.false_eq_true, if_false]
      exact wpAny_allTrue_Or_nil (c h'' tk' fun b o q => kp' b o (kp b o q))
theorem tst_int {e : Expr} {i : Int} (h : Ev prog w K env r ρ e (TInt i)) (he : ∀ whole, isTrue e env whole = (do let v ← whole; standAt e.pos; holding [v] (truthy v)) := by intro _; rfl) : Tst prog w K env r ρ e (decide (i ≠ 0)) := by
  intro A s X Q E R k S c
  refine wpAny_isTrue_value (h A s X _ _ R k S ?_) (he _)
  rintro v h' tk kp ⟨t, rfl⟩
  refine P.truthy_int ?_
  have := c h' tk kp
  by_cases q : i = 0
  · subst q; simpa using this
  · have e1 : (i != 0) = true := by simp [q]
    have e2 : decide (i ≠ 0) = true := by simp [q]
    rw [e1]; rw [e2] at this; exact this
theorem tst_bool {e : Expr} {b : Bool} (h : Ev prog w K env r ρ e (TBool b)) (he : ∀ whole, isTrue e env whole = (do let v ← whole; standAt e.pos; holding [v] (truthy v)) := by intro _; rfl) : Tst prog w K env r ρ e b := by
  intro A s X Q E R k S c
  refine wpAny_isTrue_value (h A s X _ _ R k S ?_) (he _)
  rintro v h' tk kp rfl
  exact wpAny_truthy_bool (c h' tk kp)
theorem tst_notnone {a b : Expr} {pos : Pos} {P : WV} {t : Bool} (ha : Ev prog w K env r ρ a P) (hb : Ev prog w K env r ρ b TNone) (hp : ∀ X h v, P.p X h v → plainIs v .none = true ∧ (!(v == .none)) = t)
    (hm : behindInMarks .IsNot b = false := by with_unfolding_all rfl) : Tst prog w K env r ρ (.Compare a [.IsNot] [b] pos) t := by
  refine tst_cmp ha hb ?_ hm
  rintro X hh va vb pa rfl A s Q E R e kK hX c
  obtain ⟨q1, q2⟩ := hp _ _ _ pa
  exact wpAny_isNot_plain q1 (c _ s.heap s.toks (fun _ _ q => q) (by rw [q2]))
end
end Mine

namespace Mine
open PySem PySem.Calls

/-! ### tables as lists of pairs -/
section
variable {K : Type} [DecidableEq K] {α β : Type}
noncomputable def dget (kvs : List (K × α)) (k : K) : Option α := (kvs.find? fun kv => kv.1 = k).map (·.2)
noncomputable def dput (kvs : List (K × α)) (k : K) (v : α) : List (K × α) :=
  if kvs.any (fun kv => kv.1 = k) then kvs.map (fun kv => if kv.1 = k then (kv.1, v) else kv) else kvs ++ [(k, v)]

theorem rel_get {R : α → β → Prop} : ∀ {kvs : List (K × α)} {us : List (K × β)}, All2 (fun x y => x.1 = y.1 ∧ R x.2 y.2) kvs us → ∀ k,
    (∀ P, dget kvs k = some P → ∃ v, dget us k = some v ∧ R P v) ∧ (dget kvs k = none → dget us k = none)
  | [], [], _, k => ⟨fun P h => by simp [dget] at h, fun _ => rfl⟩
  | (k₁, P₁) :: kvs, (k₂, v₂) :: us, ⟨⟨e, hr⟩, r⟩, k => by
    simp only at e hr
    subst e
    have ih := rel_get r k
    by_cases q : k₁ = k
    · constructor
      · intro P h
        have : dget ((k₁, P₁) :: kvs) k = some P₁ := by simp [dget, q]
        rw [this] at h; cases h
        exact ⟨v₂, by simp [dget, q], hr⟩
      · intro h
        have : dget ((k₁, P₁) :: kvs) k = some P₁ := by simp [dget, q]
        rw [this] at h; cases h
    · have e1 : dget ((k₁, P₁) :: kvs) k = dget kvs k := by simp [dget, q]
      have e2 : dget ((k₁, v₂) :: us) k = dget us k := by simp [dget, q]
      rw [e1, e2]; exact ih
theorem rel_any {R : α → β → Prop} : ∀ {kvs : List (K × α)} {us : List (K × β)}, All2 (fun x y => x.1 = y.1 ∧ R x.2 y.2) kvs us → ∀ k, (kvs.any fun kv => decide (kv.1 = k)) = us.any fun kv => decide (kv.1 = k)
  | [], [], _, _ => rfl
  | (k₁, P₁) :: kvs, (k₂, v₂) :: us, ⟨⟨e, hr⟩, r⟩, k => by
    simp only at e
    subst e
    simp only [List.any_cons, rel_any r k]
theorem rel_map {R : α → β → Prop} {P : α} {v : β} (hv : R P v) (k : K) : ∀ {kvs : List (K × α)} {us : List (K × β)}, All2 (fun x y => x.1 = y.1 ∧ R x.2 y.2) kvs us →
    All2 (fun x y => x.1 = y.1 ∧ R x.2 y.2) (kvs.map fun kv => if kv.1 = k then (kv.1, P) else kv) (us.map fun kv => if kv.1 = k then (kv.1, v) else kv)
  | [], [], _ => trivial
  | (k₁, P₁) :: kvs, (k₂, v₂) :: us, ⟨⟨e, hr⟩, r⟩ => by
    simp only at e hr
    subst e
    refine ⟨?_, rel_map hv k r⟩
    by_cases q : k₁ = k
    · simp only [q, if_true]; exact ⟨trivial, hv⟩
    · simp only [q, if_false]; exact ⟨trivial, hr⟩
theorem rel_put {R : α → β → Prop} {P : α} {v : β} (hv : R P v) (k : K) {kvs : List (K × α)} {us : List (K × β)} (h : All2 (fun x y => x.1 = y.1 ∧ R x.2 y.2) kvs us) :
    All2 (fun x y => x.1 = y.1 ∧ R x.2 y.2) (dput kvs k P) (dput us k v) := by
  unfold dput
  rw [rel_any h k]
  split
  · exact rel_map hv k h
  · exact h.append ⟨⟨rfl, hv⟩, trivial⟩
theorem valueAt_dget {us : List (K × Value)} {k : K} : valueAt us k = dget us k := rfl
theorem stored_dput {us : List (K × Value)} {k : K} {v : Value} : stored us k v = dput us k v := rfl
end

section
variable {prog : Program} {w : World} {K : PM} {gl : List (Str × Value)} {env : Env} {r : Nat} {ρ : Ctx}
variable {κ : Type} [DecidableEq κ] {knd : KeyKind prog w κ}

/-- a key -/
noncomputable def IsKey (knd : KeyKind prog w κ) (P : WV) (k : κ) : Prop := ∀ X h v, P.p X h v → knd.is k v = true
theorem key_int {i : Int} : IsKey (intKind prog w) (TInt i) i := by rintro X h v ⟨t, rfl⟩; exact intKind_is prog w i t
theorem key_str {x : Str} : IsKey (strKind prog w) (TStr x) x := by rintro X h v ⟨t, rfl⟩; exact strKind_is prog w x t

theorem ev_item_dict {a i : Expr} {pos : Pos} {kvs : List (κ × HV)} {Pi : WV} {k : κ} {P : HV} (ha : Ev prog w K env r ρ a (LDict knd kvs)) (hi : Ev prog w K env r ρ i Pi) (hk : IsKey knd Pi k) (hg : dget kvs k = some P)
    (hs : ∀ va vi, ∃ ops, subscripted i false va vi = operate ops (getItem va vi) := by intro a b; exact ⟨_, rfl⟩) :
    Ev prog w K env r ρ (.Subscript a i pos) P := by
  refine ev_subscr (T := "dict") ha hi (fun X s v p => ?_) slot_dict_getitem.lookup (fun X hh va vi pa pi => ?_) hs
  · obtain ⟨a, us, rfl, _, hd, _⟩ := p; exact hd.typeIs
  · intro A s Q E R e kK hX c
    subst e
    obtain ⟨a, us, rfl, _, hd, hi⟩ := pa
    obtain ⟨v, hv, hp⟩ := (rel_get (R := fun (P : HV) v => P.p X s.heap v) hi k).1 P hg
    exact wpAny_getItem_of (hk _ _ _ pi) hd.mapOf (valueAt_dget.trans hv) (c v s.heap _ (fun _ _ q => q) hp)

theorem dictShape {kvs : List (κ × HV)} : ∀ (X : XS) (s : Shared) (v : Value), (LDict knd kvs).p X s.heap v → s.TypeIs v "dict" ∧ ∀ a, v = .ref a → ∃ ob, s.heap.get? a = some ob ∧ ob.dict = none := by
  rintro X s v ⟨a, us, rfl, _, hd, _⟩
  exact ⟨hd.typeIs, hd.mapOf.noDict⟩

theorem ev_get2 {o a b : Expr} {apos pos : Pos} {kvs : List (κ × HV)} {Pk Pd P : WV} {k : κ} (ho : Ev prog w K env r ρ o (LDict knd kvs)) (ha : Ev prog w K env r ρ a Pk) (hb : Ev prog w K env r ρ b Pd) (hk : IsKey knd Pk k)
    (hP : ∀ (X : XS) h v, (∀ p, dget kvs k = some p → p.p X h v → P.p X h v) ∧ (dget kvs k = none → Pd.p X h v → P.p X h v))
    (hst : starEach [a, b] env = [(false, eval a env), (false, eval b env)] := by rfl) (hst2 : starEach [b] env = [(false, eval b env)] := by rfl)
    (hbase : attributeBase o "get" env (eval o env) = eval o env := by rfl) (hline : (apos.endLine == pos.line) = true := by rfl) :
    Ev prog w K env r ρ (.Call (.Attribute o "get" apos) [a, b] [] pos) P := by
  refine ev_meth F.plainAttrs_dict F.slot_dict_get F.type_dict_get ho dictShape (evl_cons ha (evl_cons hb evl_nil hst2) (by rw [hst, hst2])) ?_ hbase (by rw [hst]; rfl) hline
  rintro X hh ov vs po pv
  obtain ⟨key, dflt, rfl, pk, pd⟩ := vs2 pv
  intro A s Q E R e kK hX c
  subst e
  obtain ⟨d, us, rfl, hsys, hd, hi⟩ := po
  refine call_meetsIn F.slot_dict_get hd.typeIs F.entry_dict_get (F.args_dict_get_3 _ _ _) (meets_dict_get_default knd d (hk _ _ _ pk) hsys dflt) ⟨_, hd.mapOf, ?_⟩
  cases hg : dget kvs k with
  | none =>
    have := (rel_get (R := fun (P : HV) v => P.p X s.heap v) hi k).2 hg
    rw [valueAt_dget, this]
    exact c _ s.heap _ (fun _ _ q => q) ((hP X s.heap dflt).2 hg pd)
  | some p =>
    obtain ⟨v, hv, hp⟩ := (rel_get (R := fun (P : HV) v => P.p X s.heap v) hi k).1 p hg
    rw [valueAt_dget, hv]
    exact c _ s.heap _ (fun _ _ q => q) ((hP X s.heap v).1 p hg hp)

theorem vl_inD {X : XS} {hh : Heap} {vk vd : Value} {kvs : List (κ × HV)} {Pk : WV} {k : κ} (pk : Pk.p X hh vk) (hk : IsKey knd Pk k) (pd : (LDict knd kvs).p X hh vd) :
    Vl prog w K r X hh (compareOp .In vk vd) (fun v _ => v = .bool (dget kvs k).isSome) := by
  intro A s Q E R e kK hX c
  subst e
  obtain ⟨d, us, rfl, hsys, hd, hi⟩ := pd
  refine wpAny_in_of (hk _ _ _ pk) hsys hd.mapOf (c _ s.heap _ (fun _ _ q => q) ?_)
  rw [valueAt_dget]
  cases hg : dget kvs k with
  | none => rw [(rel_get (R := fun (P : HV) v => P.p X s.heap v) hi k).2 hg]; rfl
  | some p => obtain ⟨v, hv, _⟩ := (rel_get (R := fun (P : HV) v => P.p X s.heap v) hi k).1 p hg; rw [hv]; rfl
theorem tst_inD {a b : Expr} {pos : Pos} {kvs : List (κ × HV)} {Pk : WV} {k : κ} (ha : Ev prog w K env r ρ a Pk) (hb : Ev prog w K env r ρ b (LDict knd kvs)) (hk : IsKey knd Pk k)
    (hm : behindInMarks .In b = false := by with_unfolding_all rfl) : Tst prog w K env r ρ (.Compare a [.In] [b] pos) (dget kvs k).isSome :=
  tst_cmp ha hb (fun X hh va vb pa pb => vl_inD pa hk pb) hm

theorem notSys {h : Heap} (x : h.NoLimit) : (h.objs.size == sysModules) = false := beq_eq_false_iff_ne.mpr (Nat.ne_of_gt (PyProof.Rows.modules_low x))

theorem ev_dict0 {pos : Pos} (kf : KF K gl) : Ev prog w K env r ρ (.Dict [] [] pos) (TDict knd ([] : List (κ × HV))) := by
  intro A s X Q E R k S c
  refine wpAny_Dict_empty (c _ _ s.toks (fun b o q => Heap.get?_push_of_some _ q) ⟨⟨_, rfl, fun q => ?_⟩, _, [], rfl, notSys (kf.nolimit _ k), Heap.DictOf.new _, trivial⟩)
  have := S.1 _ q
  rw [Heap.get?_none_of_le (Nat.le_refl _)] at this; cases this

theorem LSeqP.refr {cls : String} {Ps : List HV} {X X' : XS} {h : Heap} {v : Value} (x : LSeqP cls Ps X h v) (k : ∀ b, X' b → X b ∨ h.get? b = none) : LSeqP cls Ps X' h v :=
  let ⟨a, vs, n, e, ho, hi⟩ := x; ⟨a, vs, n, e, ho, hi.imp fun P u hu => P.refr k hu⟩
theorem LDictP.refr {kvs : List (κ × HV)} {X X' : XS} {h : Heap} {v : Value} (x : LDictP knd kvs X h v) (k : ∀ b, X' b → X b ∨ h.get? b = none) : LDictP knd kvs X' h v :=
  let ⟨a, us, e, hs, ho, hi⟩ := x; ⟨a, us, e, hs, ho, hi.imp fun x y hu => ⟨hu.1, x.2.refr k hu.2⟩⟩
theorem Ent.refr {e : Ent} {X X' : XS} {h : Heap} {v : Value} (x : e.w.p X h v) (k : ∀ b, X' b → X b ∨ h.get? b = none) : e.w.p X' h v := by
  cases e with
  | imm P => exact P.refr k x
  | ownS cls Ps => exact LSeqP.refr x k
  | ownD knd kvs => exact LDictP.refr x k
theorem SatV.refr {X X' : XS} {h : Heap} {m cm : Str → Option Value} (S : SatV env ρ X h m cm) (k : ∀ b, X' b → X b ∨ h.get? b = none) : SatV env ρ X' h m cm :=
  fun x e hx => let ⟨v, hv, hp⟩ := S x e hx; ⟨v, hv, Ent.refr hp k⟩
/-- a new object joins the excluded ones -/
theorem Sat.push {X : XS} {h : Heap} (S : Sat env ρ X h) (o : Obj) (ho : o.isFreed = false) : Sat env ρ (fun b => X b ∨ b = h.objs.size) (h.push o) := by
  obtain ⟨hX, m, cm, F, V⟩ := S
  refine ⟨fun b q => ?_, m, cm, F.keeps fun b o' q => Heap.get?_push_of_some _ q, SatV.keeps (V.refr fun b q => ?_) fun b o' q => Heap.get?_push_of_some _ q⟩
  · rcases q with q | rfl
    · obtain ⟨o', ho'⟩ := Option.isSome_iff_exists.mp (hX b q)
      rw [Heap.get?_push_of_some _ ho']; rfl
    · rw [Heap.get?_push_size _ ho]; rfl
  · rcases q with q | rfl
    · exact .inl q
    · exact .inr (Heap.get?_none_of_le (Nat.le_refl _))

theorem ev_dict1 {pos : Pos} (kf : KF K gl) {ke ve : Expr} {Pk : WV} {k : κ} {P : HV} (hke : Ev prog w K env r ρ ke Pk) (hve : Ev prog w K env r ρ ve P) (hk : IsKey knd Pk k) : Ev prog w K env r ρ (.Dict [some ke] [ve] pos) (TDict knd [(k, P)]) := by
  intro A s X Q E R kK S c
  refine wpAny_Dict_pairs (knd := knd) (pairs := [(eval ke env, do let x ← eval ve env; standAt pos; pure x)]) rfl (by simp) (by simp) ?_
  have S₀ := S.push { cls := .type "dict", data := .dict #[] } rfl
  have K₀ : Sub K (s.heap.push { cls := .type "dict", data := .dict #[] }) := kK.keeps fun b o q => Heap.get?_push_of_some _ q
  have hd : ¬ X s.heap.objs.size := fun q => by
    have := S.1 _ q
    rw [Heap.get?_none_of_le (Nat.le_refl _)] at this; cases this
  refine evalPairs_cons (hke A _ _ _ _ R K₀ S₀ fun kv h₁ t₁ k₁ p₁ => ?_)
  refine wpAny_bind (hve A _ _ _ _ R (K₀.keeps k₁) (S₀.keeps k₁) fun vv h₂ t₂ k₂ p₂ => ?_)
  refine wpAny_bind (wpAny_standAt (wpAny_pure (evalPairs_nil ?_)))
  have up : ∀ b o, (s.heap.push { cls := .type "dict", data := .dict #[] }).get? b = some o → h₂.get? b = some o := fun b o q => k₂ b o (k₁ b o q)
  refine ⟨[(k, vv)], ⟨hk _ _ _ p₁, rfl, trivial⟩, (Heap.DictOf.new s.heap).keep up, fun h' hd' hs' => ?_⟩
  have keep : ∀ b o, s.heap.get? b = some o → h'.get? b = some o := fun b o q => hs'.extBut b o (Nat.ne_of_lt (Heap.lt_size q)) (up b o (Heap.get?_push_of_some _ q))
  refine c _ h' _ keep ⟨⟨_, rfl, hd⟩, _, [(k, vv)], rfl, notSys (kf.nolimit _ kK), ?_, ⟨rfl, ?_⟩, trivial⟩
  · simpa [merged, stored] using hd'
  · exact P.refr (fun b q => .inl (.inl q)) (P.frame (fun b o nx q => hs'.extBut b o (fun e => nx (.inr e)) q) p₂)
end
end Mine

namespace Mine
open PySem PySem.Calls

/-! ### closures -/
noncomputable def closList (env : Env) : List (Str × NameKind) → List (Str × Addr) → List (Str × Addr)
  | [], acc => acc
  | (n, k) :: r, acc => if k == .free then closList env r ((n, (env.cells.lookup n).getD 0) :: acc) else closList env r acc
theorem closFor_go {env : Env} : ∀ (names : List (Str × NameKind)) (acc : List (Str × Addr)), (∀ y ∈ names, y.2 = .free → (env.cells.lookup y.1).isSome = true) →
    (forIn names acc fun (x : Str × NameKind) (cs : List (Str × Addr)) => (match x with | (name, kind) => if (kind == .free) = true then do let a ← cellOf env name; pure (ForInStep.yield ((name, a) :: cs)) else pure (ForInStep.yield cs) : Sem _)) = (pure (closList env names acc) : Sem (List (Str × Addr)))
  | [], acc, _ => rfl
  | (n, k) :: r, acc, h => by
    rw [List.forIn_cons]
    by_cases hk : (k == NameKind.free) = true
    · have h1 := h (n, k) List.mem_cons_self (by simpa using hk)
      obtain ⟨c, hc⟩ := Option.isSome_iff_exists.mp h1
      have : cellOf env n = pure c := by unfold cellOf; rw [hc]
      simp only [hk, if_true, this]
      have e : closList env ((n, k) :: r) acc = closList env r ((n, c) :: acc) := by simp only [closList, hk, if_true, hc, Option.getD_some]
      rw [e]
      exact closFor_go r _ fun y hy => h y (List.mem_cons_of_mem _ hy)
    · simp only [hk]
      have e : closList env ((n, k) :: r) acc = closList env r acc := by simp only [closList, hk]; rfl
      rw [e]
      exact closFor_go r _ fun y hy => h y (List.mem_cons_of_mem _ hy)
theorem closFor_eq {env : Env} {scope : Scope} (h : ∀ y ∈ scope.names, y.2 = .free → (env.cells.lookup y.1).isSome = true) : closureFor scope env = pure (closList env scope.names []) := by
  unfold closureFor
  have := closFor_go (env := env) scope.names [] h
  simp only [bind_pure]
  exact this
theorem closList_has {env : Env} {y : Str} {c : Addr} (hc : env.cells.lookup y = some c) : ∀ (names : List (Str × NameKind)) (acc : List (Str × Addr)), (acc.lookup y = some c ∨ (y, .free) ∈ names) → (closList env names acc).lookup y = some c
  | [], acc, h => by
    rcases h with h | h
    · exact h
    · cases h
  | (n, k) :: r, acc, h => by
    unfold closList
    by_cases hk : (k == NameKind.free) = true
    · rw [if_pos hk]
      refine closList_has hc r _ ?_
      by_cases hn : y = n
      · subst hn; left; simp [hc]
      · have hb : (y == n) = false := beq_eq_false_iff_ne.mpr hn
        rcases h with h | h
        · left; simp [List.lookup_cons, hb, h]
        · rcases List.mem_cons.mp h with h | h
          · cases h; exact absurd rfl hn
          · exact .inr h
    · rw [if_neg hk]
      refine closList_has hc r _ ?_
      rcases h with h | h
      · exact .inl h
      · rcases List.mem_cons.mp h with h | h
        · cases h; exact absurd rfl hk
        · exact .inr h
theorem closList_only {env : Env} {y : Str} {c : Addr} : ∀ (names : List (Str × NameKind)) (acc : List (Str × Addr)), (closList env names acc).lookup y = some c → (acc.lookup y).isSome = true ∨ (y, .free) ∈ names
  | [], acc, h => .inl (by rw [show acc.lookup y = some c from h]; rfl)
  | (n, k) :: r, acc, h => by
    unfold closList at h
    by_cases hk : (k == NameKind.free) = true
    · rw [if_pos hk] at h
      rcases closList_only r _ h with h' | h'
      · rw [List.lookup_cons] at h'
        cases hb : y == n with
        | true =>
          have : k = .free := by simpa using hk
          subst this
          rw [eq_of_beq hb]; exact .inr List.mem_cons_self
        | false => rw [hb] at h'; exact .inl h'
      · exact .inr (List.mem_cons_of_mem _ h')
    · rw [if_neg hk] at h
      rcases closList_only r _ h with h' | h'
      · exact .inl h'
      · exact .inr (List.mem_cons_of_mem _ h')

theorem lookup_relabel {env : Env} : ∀ {names : List (Str × NameKind)} {x : Str} {k : NameKind}, names.lookup x = some k →
    (names.map fun (n, k) => if (k == NameKind.free && env.scope.kind == .function && env.kindOf n == some .cell) then (n, NameKind.cell) else (n, k)).lookup x =
      some (if (k == NameKind.free && env.scope.kind == .function && env.kindOf x == some .cell) then NameKind.cell else k)
  | [], _, _, h => by simp at h
  | (n, k') :: r, x, k, h => by
    have ih := @lookup_relabel env r x k
    show List.lookup x ((if (k' == NameKind.free && env.scope.kind == .function && env.kindOf n == some .cell) = true then (n, NameKind.cell) else (n, k')) :: _) = _
    cases hx : x == n with
    | true =>
      simp only [List.lookup_cons, hx] at h
      obtain rfl : k' = k := by simpa using h
      have e := eq_of_beq hx
      subst e
      by_cases hc : (k' == NameKind.free && env.scope.kind == .function && env.kindOf x == some .cell) = true
      · rw [if_pos hc, if_pos hc]; simp [List.lookup_cons]
      · rw [if_neg hc, if_neg hc]; simp [List.lookup_cons]
    | false =>
      simp only [List.lookup_cons, hx] at h
      by_cases hc : (k' == NameKind.free && env.scope.kind == .function && env.kindOf n == some .cell) = true
      · rw [if_pos hc]; simp only [List.lookup_cons, hx]; exact ih h
      · rw [if_neg hc]; simp only [List.lookup_cons, hx]; exact ih h

/-! ### things that can be gone through -/
structure ItSt (prog : Program) (w : World) (X : XS) (h₀ h : Heap) (it : Value) (Ps : List HV) where
  I : Addr
  fp : List Addr
  wr : List Addr
  P : Nat → Value → Prop
  St : Nat → Heap → Prop
  isI : it = .ref I
  walks : ∀ A : Around, A.handled = none → Walks prog w A I fp wr Ps.length P St
  st : St 0 h
  live : ∀ i h' b, St i h' → b ∈ wr → (h'.get? b).isSome = true
  base : ∀ b ∈ fp, (h.get? b).isSome = true
  off : ∀ b ∈ fp, ¬ X b
  new : ∀ b ∈ wr, h₀.get? b = none
  item : ∀ i v Q, Ps[i]? = some Q → P i v → Q.p (fun b => X b ∨ b ∈ wr) h v

section
variable (prog : Program) (w : World) (K : PM)
noncomputable def It (env : Env) (r : Nat) (ρ : Ctx) (e : Expr) (Ps : List HV) : Prop :=
  ∀ (A : Around) (s : Shared) (X : XS) (Q : Value → Shared → Prop) (E : Value → Shared → Prop), Room A r → Sub K s.heap → Sat env ρ X s.heap →
    (∀ it h' tk, (∀ b o, s.heap.get? b = some o → h'.get? b = some o) → Nonempty (ItSt prog w X s.heap h' it Ps) → Q it { s with heap := h', toks := tk }) →
    wpAny (model prog w) A (eval e env) (fun xv s₁ => wpAny (model prog w) A (pyIter xv) Q E s₁) E s
end

section
variable {prog : Program} {w : World} {K : PM} {gl : List (Str × Value)} {env : Env} {r : Nat} {ρ : Ctx}

theorem liveAt {h : Heap} {a : Addr} {o : Obj} (e : h.get? a = some o) : (h.get? a).isSome = true := by rw [e]; rfl
theorem notIn {X : XS} {h : Heap} (hX : ∀ b, X b → (h.get? b).isSome = true) {a : Addr} (e : h.get? a = none) : ¬ X a := fun q => by
  have := hX a q; rw [e] at this; cases this
theorem freshNone (h : Heap) : h.get? h.objs.size = none := Heap.get?_none_of_le (Nat.le_refl _)
theorem freshNone' {h h' : Heap} (k : ∀ b o, h.get? b = some o → h'.get? b = some o) : h.get? h'.objs.size = none := by
  cases e : h.get? h'.objs.size with
  | none => rfl
  | some o => have := k _ _ e; rw [freshNone] at this; cases this

theorem wrUp {P : HV} {X : XS} {wr : List Addr} {h₁ h : Heap} {v : Value} (p : P.p X h₁ v) (hn : ∀ b ∈ wr, h₁.get? b = none) (k : ∀ b o, h₁.get? b = some o → h.get? b = some o) : P.p (fun b => X b ∨ b ∈ wr) h v :=
  P.frame (fun b o _ e => k b o e) (P.refr (fun b q => q.elim .inl fun q => .inr (hn b q)) p)

/-- one object walked over, one new iterator -/
noncomputable def ItSt.two {X : XS} {h₀ h₁ : Heap} {o ob : Obj} {a : Addr} {Ps : List HV} {P : Nat → Value → Prop} {St : Nat → Heap → Prop} {n : Nat} (hn : Ps.length = n) (ho : o.isFreed = false) (hX : ∀ b, X b → (h₀.get? b).isSome = true) (k₁ : ∀ b o, h₀.get? b = some o → h₁.get? b = some o)
    (ha : h₁.get? a = some ob) (hXa : ¬ X a)
    (W : ∀ A : Around, A.handled = none → Walks prog w A h₁.objs.size [h₁.objs.size, a] [h₁.objs.size] n P St) (st : St 0 (h₁.push o)) (live : ∀ i h', St i h' → (h'.get? h₁.objs.size).isSome = true)
    (item : ∀ i v Q, Ps[i]? = some Q → P i v → Q.p X h₁ v) : ItSt prog w X h₀ (h₁.push o) (.ref h₁.objs.size) Ps where
  I := h₁.objs.size
  fp := [h₁.objs.size, a]
  wr := [h₁.objs.size]
  P := P
  St := St
  isI := rfl
  walks := fun A hA => hn ▸ W A hA
  st := st
  live := by
    intro i h' b hs hb
    simp only [List.mem_singleton] at hb; subst hb; exact live i h' hs
  base := by
    intro b hb
    simp only [List.mem_cons, List.not_mem_nil, or_false] at hb
    rcases hb with rfl | rfl
    · exact liveAt (Heap.get?_push_size _ ho)
    · exact liveAt (Heap.get?_push_of_some _ ha)
  off := by
    intro b hb
    simp only [List.mem_cons, List.not_mem_nil, or_false] at hb
    rcases hb with rfl | rfl
    · exact notIn hX (freshNone' k₁)
    · exact hXa
  new := by
    intro b hb
    simp only [List.mem_singleton] at hb; subst hb
    exact freshNone' k₁
  item := by
    intro i v Q hQ hP
    refine wrUp (item i v Q hQ hP) (fun b hb => ?_) fun b o q => Heap.get?_push_of_some _ q
    simp only [List.mem_singleton] at hb; subst hb; exact freshNone _
noncomputable def ItSt.one {X : XS} {h₀ h₁ : Heap} {o : Obj} {Ps : List HV} {P : Nat → Value → Prop} {St : Nat → Heap → Prop} {n : Nat} (hn : Ps.length = n) (ho : o.isFreed = false) (hX : ∀ b, X b → (h₀.get? b).isSome = true) (k₁ : ∀ b o, h₀.get? b = some o → h₁.get? b = some o)
    (W : ∀ A : Around, A.handled = none → Walks prog w A h₁.objs.size [h₁.objs.size] [h₁.objs.size] n P St) (st : St 0 (h₁.push o)) (live : ∀ i h', St i h' → (h'.get? h₁.objs.size).isSome = true)
    (item : ∀ i v Q, Ps[i]? = some Q → P i v → Q.p X h₁ v) : ItSt prog w X h₀ (h₁.push o) (.ref h₁.objs.size) Ps where
  I := h₁.objs.size
  fp := [h₁.objs.size]
  wr := [h₁.objs.size]
  P := P
  St := St
  isI := rfl
  walks := fun A hA => hn ▸ W A hA
  st := st
  live := by
    intro i h' b hs hb
    simp only [List.mem_singleton] at hb; subst hb; exact live i h' hs
  base := by
    intro b hb
    simp only [List.mem_singleton] at hb; subst hb; exact liveAt (Heap.get?_push_size _ ho)
  off := by
    intro b hb
    simp only [List.mem_singleton] at hb; subst hb; exact notIn hX (freshNone' k₁)
  new := by
    intro b hb
    simp only [List.mem_singleton] at hb; subst hb
    exact freshNone' k₁
  item := by
    intro i v Q hQ hP
    refine wrUp (item i v Q hQ hP) (fun b hb => ?_) fun b o q => Heap.get?_push_of_some _ q
    simp only [List.mem_singleton] at hb; subst hb; exact freshNone _

theorem it_list {e : Expr} {Ps : List HV} (he : Ev prog w K env r ρ e (TList Ps)) : It prog w K env r ρ e Ps := by
  intro A s X Q E R k S c
  refine he A s X _ _ R k S ?_
  rintro v h₁ t₁ k₁ ⟨⟨a, rfl, hX⟩, a', vs, n, e', ho, hi⟩
  cases e'
  have hl : h₁.IsList a vs := ⟨_, ho, rfl, n, rfl⟩
  have hne : a ≠ h₁.objs.size := Nat.ne_of_lt (Heap.lt_size ho)
  have hlen : Ps.length = vs.size := by rw [hi.length]; simp
  refine wpAny_pyIter_list hl (c _ _ _ (fun b o q => Heap.get?_push_of_some _ (k₁ b o q)) ⟨.two hlen rfl S.1 k₁ ho hX (fun A' hA => Walks.list hA _ a hne vs)
    ⟨⟨_, Heap.get?_push_size _ rfl, rfl, rfl⟩, ⟨_, Heap.get?_push_of_some _ ho, rfl, n, rfl⟩⟩ (by rintro i h' ⟨⟨o, ho', _⟩, _⟩; exact liveAt ho') ?_⟩)
  intro i v P hP hv
  exact hi.get hP (by simpa using hv)
theorem it_rev {e : Expr} {p pos : Pos} {Ps : List HV} (kf : KF K gl) (hgl : env.globals = mainGlobals) (hbl : env.builtins = builtinsNs) (hk : env.scope.kind = .function) (he : Ev prog w K env r ρ e (TList Ps))
    (hst : starEach [e] env = [(false, eval e env)] := by rfl) (hx : env.kindOf "reversed" = some .globalImplicit := by rfl) (hg : gl.lookup (Str.ofString "reversed") = none := by rfl) :
    It prog w K env r ρ (.Call (.Name "reversed" p) [e] [] pos) Ps.reverse := by
  intro A s X Q E R k S c
  show wpAny _ A (do callWith pos (← eval (.Name "reversed" p) env) [] (backTo pos (starEach [e] env)) (backToKw pos (keywordEach [] env))) _ E s
  obtain ⟨mg, hmg, _, hmiss⟩ := kf.glob _ k
  obtain ⟨mb, hmb, hmv⟩ := kf.blt _ k
  refine wpAny_bind (Calls.Name_function_global hk hx (Calls.loadGlobal_builtin (hgl ▸ hmg) (hmiss _ hg (by decide)) (hbl ▸ hmb) ((hmv "reversed" (by decide)).trans (show bootBuiltins "reversed" = some (.type "reversed") by first | rfl | decide +kernel)) ?_) (by decide))
  have hargs := evl_cons (pos := pos) he evl_nil hst
  refine callWith_val (by intro a h; cases h) hargs.plain (evalArgs_trees hargs.plain (hargs.run A s X _ _ R k S fun vs h₁ t₁ k₁ pv => ?_))
  obtain ⟨v, rfl, ⟨⟨a, e1, hX⟩, a', us, n, e2, ho, hi⟩⟩ := vs1 pv
  subst e1; cases e2
  have hlen : Ps.reverse.length = us.size := by rw [List.length_reverse, hi.length]; simp
  have hne : a ≠ h₁.objs.size := Nat.ne_of_lt (Heap.lt_size ho)
  have hr : (h₁.push (revObj a ((us.size : Int) - 1))).IsRevIter h₁.objs.size a ((us.size : Int) - 1) := ⟨_, Heap.get?_push_size _ rfl, rfl, rfl⟩
  refine call_reversed_list (items := us) ⟨_, ho, rfl, n, rfl⟩ (wpAny_pyIter_revIter hr ?_)
  refine c _ _ _ (fun b o q => Heap.get?_push_of_some _ (k₁ b o q)) ⟨.two hlen rfl S.1 k₁ ho hX (fun A' hA => Walks.listRev hA _ a hne us)
    ⟨Nat.zero_le _, by simpa using hr, ⟨_, Heap.get?_push_of_some _ ho, rfl, n, rfl⟩⟩ (by rintro i h' ⟨_, ⟨o, ho', _⟩, _⟩; exact liveAt ho') ?_⟩
  intro i v P hP hv
  have hs : Ps.length = us.size := by rw [← hlen, List.length_reverse]
  have hil : i < Ps.length := by have := (List.getElem?_eq_some_iff.mp hP).1; simpa using this
  rw [List.getElem?_reverse hil] at hP
  refine hi.get hP ?_
  rw [hs]; simpa using hv
theorem it_keys {κ : Type} [DecidableEq κ] {knd : KeyKind prog w κ} {kvs : List (κ × HV)} {TK : κ → HV} {e : Expr} (he : Ev prog w K env r ρ e (TDict knd kvs)) (hK : ∀ k X h v, knd.is k v = true → (TK k).p X h v) : It prog w K env r ρ e (kvs.map fun kv => TK kv.1) := by
  intro A s X Q E R k S c
  refine he A s X _ _ R k S ?_
  rintro v h₁ t₁ k₁ ⟨⟨a, rfl, hX⟩, a', us, e', hs, hd, hi⟩
  cases e'
  obtain ⟨ep, hat⟩ : ∃ ep, h₁.DictAt knd a us ep := by
    obtain ⟨o, es, ep, ho, r⟩ := hd; exact ⟨ep, o, es, ho, r⟩
  have ⟨o, es, ho, _⟩ := hat
  have hne : a ≠ h₁.objs.size := Nat.ne_of_lt (Heap.lt_size ho)
  have hlen : (kvs.map fun kv => TK kv.1).length = us.length := by rw [List.length_map, hi.length]
  refine wpAny_pyIter_dict (knd := knd) hs hat (c _ _ _ (fun b o q => Heap.get?_push_of_some _ (k₁ b o q)) ⟨.two hlen rfl S.1 k₁ ho hX (fun A' hA => Walks.dictKeys hA _ a hne us ep)
    ⟨⟨_, Heap.get?_push_size _ rfl, rfl, rfl⟩, hat.at' fun o q => Heap.get?_push_of_some _ q⟩ (by rintro i h' ⟨⟨o, ho', _⟩, _⟩; exact liveAt ho') ?_⟩)
  rintro i v P hP ⟨kk, x, hx, hkey⟩
  rw [List.getElem?_map, Option.map_eq_some_iff] at hP
  obtain ⟨kv, hkv, rfl⟩ := hP
  have := hi.get hkv hx
  rw [this.1]
  exact hK _ _ _ _ hkey

theorem it_values {κ : Type} [DecidableEq κ] {knd : KeyKind prog w κ} {kvs : List (κ × HV)} {e : Expr} {apos pos : Pos} (he : Ev prog w K env r ρ e (TDict knd kvs))
    (hbase : attributeBase e "values" env (eval e env) = eval e env := by rfl) (hline : (apos.endLine == pos.line) = true := by rfl) : It prog w K env r ρ (.Call (.Attribute e "values" apos) [] [] pos) (kvs.map (·.2)) := by
  intro A s X Q E R k S c
  refine wpAny_Call_method hbase rfl hline F.plainAttrs_dict F.slot_dict_values F.type_dict_values (he A s X _ _ R k S ?_)
  rintro v h₁ t₁ k₁ ⟨⟨a, rfl, hX⟩, a', us, e', hs, hd, hi⟩
  cases e'
  refine ⟨hd.typeIs, hd.mapOf.noDict, ?_⟩
  refine Calls.callWith_builtin rfl (evalArgs_trees rfl (Calls.spliced_nil ?_))
  refine call_meetsIn F.slot_dict_values hd.typeIs F.entry_dict_values (F.args_dict_values_1 _) (meets_dict_values knd a hs) ⟨⟨us, hd⟩, ?_⟩
  obtain ⟨ep, hat⟩ : ∃ ep, h₁.DictAt knd a us ep := by
    obtain ⟨o, es, ep, ho, r⟩ := hd; exact ⟨ep, o, es, ho, r⟩
  have ⟨o, es, ho, _⟩ := hat
  have k₂ : ∀ b o, s.heap.get? b = some o → (h₁.push { cls := .type "dict_values", data := .fields #[.ref a] }).get? b = some o := fun b o q => Heap.get?_push_of_some _ (k₁ b o q)
  have hat₂ : (h₁.push { cls := .type "dict_values", data := .fields #[.ref a] }).DictAt knd a us ep := hat.at' fun o q => Heap.get?_push_of_some _ q
  have ⟨o₂, es₂, ho₂, _⟩ := hat₂
  have hlen : (kvs.map (·.2)).length = us.length := by rw [List.length_map, hi.length]
  refine wpAny_pyIter_values (knd := knd) ⟨_, Heap.get?_push_size _ rfl, rfl, rfl⟩ hat₂ (c _ _ _ (fun b o q => Heap.get?_push_of_some _ (k₂ b o q)) ⟨.two hlen rfl S.1 k₂ ho₂ hX (fun A' hA => Walks.dictValues hA _ a (Nat.ne_of_lt (Heap.lt_size ho₂)) us ep)
    ⟨⟨_, Heap.get?_push_size _ rfl, rfl, rfl⟩, hat₂.at' fun o q => Heap.get?_push_of_some _ q⟩ (by rintro i h' ⟨⟨o, ho', _⟩, _⟩; exact liveAt ho') ?_⟩)
  rintro i v P hP ⟨kk, hx⟩
  rw [List.getElem?_map, Option.map_eq_some_iff] at hP
  obtain ⟨kv, hkv, rfl⟩ := hP
  exact kv.2.frame (fun b o _ q => Heap.get?_push_of_some _ q) (hi.get hkv hx).2

noncomputable def TRange (a b c : Int) : WV where
  p X h v := ∃ r t u v', v = .ref r ∧ IsRange h r a b c t u v'
  mono := by
    rintro X h h' v k ⟨r, t, u, v', rfl, e⟩
    exact ⟨r, t, u, v', rfl, k _ _ e⟩
theorem it_range {e : Expr} {a b c : Int} {ns : List Int} (he : Ev prog w K env r ρ e (TRange a b c)) (hs : Builtin.Range.small a b c = true) (hn : Builtin.Range.rangeSize a b c = ns.length) (hi : ∀ (i : Nat) k, ns[i]? = some k → k = a + (i : Int) * c) :
    It prog w K env r ρ e (ns.map TInt) := by
  intro A s X Q E R k S cc
  refine he A s X _ _ R k S ?_
  rintro v h₁ t₁ k₁ ⟨rr, t, u, v', rfl, hr⟩
  have hlen : (ns.map TInt).length = ns.length := by simp
  refine wpAny_pyIter_range hr hs (cc _ _ _ (fun b o q => Heap.get?_push_of_some _ (k₁ b o q)) ⟨.one hlen rfl S.1 k₁ (fun A' hA => Walks.range hA _ a c ns.length)
    (by rw [hn]; show IsRangeIter _ _ _ _ _; simpa using Heap.get?_push_size _ rfl) (by intro i h' ho'; exact liveAt ho') ?_⟩)
  rintro i v P hP ⟨tt, rfl⟩
  rw [List.getElem?_map, Option.map_eq_some_iff] at hP
  obtain ⟨kv, hkv, rfl⟩ := hP
  exact ⟨tt, by rw [hi i kv hkv]⟩
theorem ev_range1 {p pos : Pos} {a : Expr} {x : Int} (kf : KF K gl) (hgl : env.globals = mainGlobals) (hbl : env.builtins = builtinsNs) (hk : env.scope.kind = .function) (ha : Ev prog w K env r ρ a (TInt x))
    (hst : starEach [a] env = [(false, eval a env)] := by rfl) (hx : env.kindOf "range" = some .globalImplicit := by rfl) (hg : gl.lookup (Str.ofString "range") = none := by rfl) :
    Ev prog w K env r ρ (.Call (.Name "range" p) [a] [] pos) (TRange 0 x 1) := by
  refine ev_call_b kf hgl hbl hk (fv := .type "range") (by first | rfl | decide +kernel) (by intro a h; cases h) (evl_cons ha evl_nil hst) ?_ hx hg
  intro X hh vs pv
  obtain ⟨v, rfl, ⟨t, e⟩⟩ := vs1 pv
  subst e
  intro A s Q E R e kK hX' c
  exact call_range_1 (c _ _ _ (fun b o q => Heap.get?_push_of_some _ q) ⟨_, _, _, _, rfl, IsRange.new ..⟩)
theorem ev_range2 {p pos : Pos} {a b : Expr} {x y : Int} (kf : KF K gl) (hgl : env.globals = mainGlobals) (hbl : env.builtins = builtinsNs) (hk : env.scope.kind = .function) (ha : Ev prog w K env r ρ a (TInt x)) (hb : Ev prog w K env r ρ b (TInt y))
    (hst : starEach [a, b] env = [(false, eval a env), (false, eval b env)] := by rfl) (hst2 : starEach [b] env = [(false, eval b env)] := by rfl) (hx : env.kindOf "range" = some .globalImplicit := by rfl) (hg : gl.lookup (Str.ofString "range") = none := by rfl) :
    Ev prog w K env r ρ (.Call (.Name "range" p) [a, b] [] pos) (TRange x y 1) := by
  refine ev_call_b kf hgl hbl hk (fv := .type "range") (by first | rfl | decide +kernel) (by intro a h; cases h) (evl_cons ha (evl_cons hb evl_nil hst2) (by rw [hst, hst2])) ?_ hx hg
  intro X hh vs pv
  obtain ⟨v, v', rfl, ⟨t, e⟩, ⟨t', e'⟩⟩ := vs2 pv
  subst e; subst e'
  intro A s Q E R e kK hX' c
  exact call_range_2 (c _ _ _ (fun b o q => Heap.get?_push_of_some _ q) ⟨_, _, _, _, rfl, IsRange.new ..⟩)
theorem ev_range3 {p pos : Pos} {a b d : Expr} {x y z : Int} (kf : KF K gl) (hgl : env.globals = mainGlobals) (hbl : env.builtins = builtinsNs) (hk : env.scope.kind = .function) (ha : Ev prog w K env r ρ a (TInt x)) (hb : Ev prog w K env r ρ b (TInt y)) (hd : Ev prog w K env r ρ d (TInt z))
    (hz : z ≠ 0) (hp : Builtin.divisionGoesByPylong (y - x) z = false)
    (hst : starEach [a, b, d] env = [(false, eval a env), (false, eval b env), (false, eval d env)] := by rfl) (hst2 : starEach [b, d] env = [(false, eval b env), (false, eval d env)] := by rfl) (hst3 : starEach [d] env = [(false, eval d env)] := by rfl)
    (hx : env.kindOf "range" = some .globalImplicit := by rfl) (hg : gl.lookup (Str.ofString "range") = none := by rfl) :
    Ev prog w K env r ρ (.Call (.Name "range" p) [a, b, d] [] pos) (TRange x y z) := by
  refine ev_call_b kf hgl hbl hk (fv := .type "range") (by first | rfl | decide +kernel) (by intro a h; cases h) (evl_cons ha (evl_cons hb (evl_cons hd evl_nil hst3) (by rw [hst2, hst3])) (by rw [hst, hst2])) ?_ hx hg
  intro X hh vs pv
  obtain ⟨v, v', v'', rfl, ⟨t, e⟩, ⟨t', e'⟩, ⟨t'', e''⟩⟩ := vs3 pv
  subst e; subst e'; subst e''
  intro A s Q E R e kK hX' c
  exact call_range_3 hz (c _ _ _ (fun b o q => Heap.get?_push_of_some _ q) ⟨_, _, _, _, rfl, IsRange.new ..⟩) (.inl hp)

theorem it_ascii {e : Expr} {x : Str} (he : Ev prog w K env r ρ e (TStr x)) (ha : x.cps.all (· < 128) = true) : It prog w K env r ρ e (x.cps.toList.map fun c => TStr ⟨#[c]⟩) := by
  intro A s X Q E R k S c
  refine he A s X _ _ R k S ?_
  rintro v h₁ t₁ k₁ ⟨t, rfl⟩
  have hlen : (x.cps.toList.map fun c => TStr ⟨#[c]⟩).length = x.cps.size := by simp
  refine wpAny_pyIter_ascii ha (c _ _ _ (fun b o q => Heap.get?_push_of_some _ (k₁ b o q)) ⟨.one hlen rfl S.1 k₁ (fun A' hA => Walks.strAscii hA _ x t)
    ⟨_, Heap.get?_push_size _ rfl, rfl, rfl⟩ (by rintro i h' ⟨o, ho', _⟩; exact liveAt ho') ?_⟩)
  rintro i v P hP ⟨cc, u, hc, rfl⟩
  rw [List.getElem?_map, Option.map_eq_some_iff] at hP
  obtain ⟨kv, hkv, rfl⟩ := hP
  rw [Array.getElem?_toList, hc] at hkv
  cases hkv
  exact ⟨u, rfl⟩
end
end Mine

namespace Mine
open PySem PySem.Calls

section
variable {M : Model} {A : Around} {E : Value → Shared → Prop} {s : Shared}
theorem wpAny_newCompEnv {scope : Scope} {globals : Addr} {closure : List (Str × Addr)} {qual : Str} {outer : Env} {Q : Env → Shared → Prop}
    (hQ : Q { scope, locals := s.heap.objs.size, globals, cells := cellsFrom (s.heap.objs.size + 1) scope.names closure, qual, func := none, code := outer.code, frame := outer.frame, builtins := outer.builtins }
      { s with heap := pushCells (s.heap.push { cls := .type "dict", data := .dict #[] }) scope.names }) :
    wpAny M A (newFunctionEnv scope globals closure [] qual none .none (some outer)) Q E s := by
  simp only [newFunctionEnv, Option.isSome_some, if_true]
  refine wpAny_bind (wpAny_alloc ?_)
  refine wpAny_bind (wpAny_layCells _ (fun name kind cells => by cases hkc : kind == NameKind.cell <;> simp [hkc]) _ _ _ _ ?_)
  rw [show ({ s with heap := s.heap.push { cls := .type "dict", data := .dict #[] } } : Shared).heap.objs.size = s.heap.objs.size + 1 from Heap.size_push ..]
  rw [List.forIn_nil]
  exact wpAny_bind (wpAny_pure (wpAny_pure hQ))
end

theorem lookup_filter_key.{u} {α : Type u} {p : Str → Bool} : ∀ {l : List (Str × α)} {y : Str} {e : α}, (l.filter fun z => p z.1).lookup y = some e → l.lookup y = some e ∧ p y = true
  | [], _, _, h => by simp at h
  | (n, v) :: r, y, e, h => by
    rw [List.filter_cons] at h
    by_cases hp : p n = true
    · simp only [hp, if_true] at h
      rw [List.lookup_cons] at h ⊢
      cases hb : y == n with
      | true => rw [hb] at h; exact ⟨h, by rw [eq_of_beq hb]; exact hp⟩
      | false => rw [hb] at h; exact lookup_filter_key h
    · simp only [hp] at h
      obtain ⟨h1, h2⟩ := lookup_filter_key (p := p) h
      refine ⟨?_, h2⟩
      rw [List.lookup_cons]
      cases hb : y == n with
      | true => rw [eq_of_beq hb] at h2; exact absurd h2 hp
      | false => exact h1

noncomputable def freeOf (scope : Scope) (ρ : Ctx) : Ctx := ρ.filter fun z => scope.names.lookup z.1 == some .free

noncomputable def CT (prog : Program) (w : World) (K : PM) (env : Env) (r : Nat) (ρ : Ctx) : List Expr → Bool → Prop
  | [], b => b = true
  | [c], b => Tst prog w K env r ρ c b
  | _, _ => False

section
variable {prog : Program} {w : World} {K : PM} {gl : List (Str × Value)} {env : Env} {r : Nat} {ρ : Ctx}

theorem ct_run {ifs : List Expr} {b : Bool} (h : CT prog w K env r ρ ifs b) {A : Around} {s : Shared} {X : XS} {Q : Bool → Shared → Prop} {E : Value → Shared → Prop} (R : Room A r) (k : Sub K s.heap) (S : Sat env ρ X s.heap)
    (c : ∀ h' tk, (∀ b o, s.heap.get? b = some o → h'.get? b = some o) → Q b { s with heap := h', toks := tk }) :
    wpAny (model prog w) A (forIn ifs true fun c r => if r = true then do let ok ← isTrue c env (eval c env); pure (ForInStep.yield ok) else pure (ForInStep.yield r)) Q E s := by
  match ifs, h with
  | [], h => rw [show b = true from h] at c; exact wpAny_tests_nil (c s.heap s.toks fun _ _ q => q)
  | [e], h => exact wpAny_tests_one (h A s X _ E R k S c)

/-- the scope of a comprehension in env -/
structure CompOk (env : Env) (ρ : Ctx) (scope : Scope) (x : Str) (own : Bool) : Prop where
  kind : scope.kind = .function
  free : (scope.names.all fun y => y.2 != .free || ((ρ.lookup y.1).isSome && (env.kindOf y.1 == some .cell || env.kindOf y.1 == some .free))) = true
  var : scope.names.lookup x = some (if own then .cell else .local)
  cells : ∀ n cl, cellsFrom n scope.names cl = (if own then [(x, n)] else []) ++ cl
  push : ∀ h, pushCells h scope.names = if own then h.push { cls := .type "cell", data := .cell none } else h
  names : ∀ y ∈ scope.names, y.2 = .local → scope.names.lookup y.1 = some .local

structure CompSt (env : Env) (ρ : Ctx) (scope : Scope) (cl : List (Str × Addr)) : Prop where
  clos : closureFor scope env = pure cl
  at_ : ∀ y c, cl.lookup y = some c → env.cells.lookup y = some c
  has : ∀ y e, (freeOf scope ρ).lookup y = some e → ρ.lookup y = some e ∧ scope.names.lookup y = some .free ∧ (env.kindOf y = some .cell ∨ env.kindOf y = some .free) ∧ ∃ c, env.cells.lookup y = some c ∧ cl.lookup y = some c

theorem cellOf_valOf {m cm : Str → Option Value} {y : Str} {v : Value} (h : valOf env m cm y = some v) (hk : env.kindOf y = some .cell ∨ env.kindOf y = some .free) : ∃ c, env.cells.lookup y = some c ∧ cm y = some v := by
  unfold valOf at h
  rcases hk with hk | hk
  · rw [hk] at h
    obtain ⟨c, hc, h⟩ := Option.bind_eq_some_iff.mp h; exact ⟨c, hc, h⟩
  · rw [hk] at h
    obtain ⟨c, hc, h⟩ := Option.bind_eq_some_iff.mp h; exact ⟨c, hc, h⟩

theorem compSt {scope : Scope} {x : Str} {own : Bool} {X : XS} {h : Heap} {m cm : Str → Option Value} (C : CompOk env ρ scope x own) (V : SatV env ρ X h m cm) : CompSt env ρ scope (closList env scope.names []) := by
  have fr : ∀ y ∈ scope.names, y.2 = .free → (∃ e, ρ.lookup y.1 = some e) ∧ (env.kindOf y.1 = some .cell ∨ env.kindOf y.1 = some .free) := by
    intro y hy hf
    have := List.all_eq_true.mp C.free y hy
    rw [hf] at this
    simp only [bne_self_eq_false, Bool.false_or, Bool.and_eq_true, Bool.or_eq_true, beq_iff_eq] at this
    exact ⟨Option.isSome_iff_exists.mp this.1, this.2⟩
  have cel : ∀ y ∈ scope.names, y.2 = .free → ∃ c, env.cells.lookup y.1 = some c := by
    intro y hy hf
    obtain ⟨⟨e, he⟩, hk⟩ := fr y hy hf
    obtain ⟨v, hv, _⟩ := V _ _ he
    obtain ⟨c, hc, _⟩ := cellOf_valOf hv hk
    exact ⟨c, hc⟩
  refine ⟨closFor_eq fun y hy hf => ?_, fun y c hc => ?_, fun y e he => ?_⟩
  · obtain ⟨c, hc⟩ := cel y hy hf; rw [hc]; rfl
  · rcases closList_only _ _ hc with q | q
    · cases q
    · obtain ⟨c', hc'⟩ := cel _ q rfl
      have := closList_has hc' scope.names [] (.inr q)
      rw [hc] at this
      cases this
      exact hc'
  · obtain ⟨h1, h2⟩ := lookup_filter_key (p := fun y => scope.names.lookup y == some .free) he
    have h3 : scope.names.lookup y = some .free := by simpa using h2
    have hm := mem_of_lookup h3
    obtain ⟨c, hc⟩ := cel _ hm rfl
    exact ⟨h1, h3, (fr _ hm rfl).2, c, hc, closList_has hc _ _ (.inr hm)⟩

noncomputable def cmIn (own : Bool) (x : Str) (ov : Option Value) (cm : Str → Option Value) : Str → Option Value := fun n => if own = true ∧ n = x then ov else cm n

theorem compSat {scope : Scope} {x : Str} {own : Bool} {X X' : XS} {h H : Heap} {m cm m' : Str → Option Value} {cl : List (Str × Addr)} {C : Addr} {ov : Option Value} {v : Value} {P : HV}
    (CO : CompOk env ρ scope x own) (CS : CompSt env ρ scope cl) (F : Fm env h m cm) (V : SatV env ρ X h m cm) (hk : env.scope.kind = .function)
    (hX' : ∀ b, X' b → X b ∨ h.get? b = none) (hlive : ∀ b, X' b → (H.get? b).isSome = true) (keep : ∀ b o, h.get? b = some o → H.get? b = some o)
    (hn : H.Ns C m') (ho : own = true → H.IsCell (C + 1) ov) (hv : if own = true then ov = some v else m' x = some v) (hp : P.p X' H v) :
    Sat (compEnvC scope ((if own = true then [(x, C + 1)] else []) ++ cl) C env) ((x, .imm P) :: freeOf scope ρ) X' H := by
  refine ⟨hlive, m', cmIn own x ov cm, ⟨hn, fun n c hc => ?_⟩, fun y e he => ?_⟩
  · show H.IsCell c (cmIn own x ov cm n)
    have hc' : ((if own = true then [(x, C + 1)] else []) ++ cl).lookup n = some c := hc
    unfold cmIn
    by_cases q : own = true ∧ n = x
    · rw [if_pos q]
      obtain ⟨rfl, rfl⟩ := q
      simp only [if_true, List.cons_append, List.nil_append, List.lookup_cons, beq_self_eq_true] at hc'
      cases hc'
      exact ho rfl
    · rw [if_neg q]
      have : cl.lookup n = some c := by
        cases hown : own with
        | false => simpa [hown] using hc'
        | true =>
          have hnx : (n == x) = false := beq_eq_false_iff_ne.mpr fun e => q ⟨hown, e⟩
          simpa [hown, List.lookup_cons, hnx] using hc'
      exact (F.cell n c (CS.at_ n c this)).keeps keep
  · rw [List.lookup_cons] at he
    cases hb : y == x with
    | true =>
      rw [hb] at he
      cases he
      have := eq_of_beq hb
      subst this
      refine ⟨v, ?_, hp⟩
      have hkx : Env.kindOf (compEnvC scope ((if own = true then [(y, C + 1)] else []) ++ cl) C env) y = some (if own = true then .cell else .local) := by
        show List.lookup y (relabel scope env).names = _
        unfold relabel
        rw [lookup_relabel CO.var]
        cases own <;> rfl
      unfold valOf
      rw [hkx]
      cases hown : own with
      | false => simpa [hown] using hv
      | true =>
        subst hown
        simp only [if_true] at hv ⊢
        show ((((y, C + 1) :: cl).lookup y).bind fun _ => cmIn true y ov cm y) = some v
        simp [List.lookup_cons, cmIn, hv]
    | false =>
      rw [hb] at he
      obtain ⟨h1, h2, h3, c, h4, h5⟩ := CS.has y e he
      obtain ⟨u, hu, hpu⟩ := V y e h1
      obtain ⟨c', hc', hcm⟩ := cellOf_valOf hu h3
      refine ⟨u, ?_, ?_⟩
      · have hky : Env.kindOf (compEnvC scope ((if own = true then [(x, C + 1)] else []) ++ cl) C env) y = some .cell ∨ Env.kindOf (compEnvC scope ((if own = true then [(x, C + 1)] else []) ++ cl) C env) y = some .free := by
          show List.lookup y (relabel scope env).names = _ ∨ List.lookup y (relabel scope env).names = _
          unfold relabel
          rw [lookup_relabel h2]
          split
          · exact .inl rfl
          · exact .inr rfl
        have hl : (compEnvC scope ((if own = true then [(x, C + 1)] else []) ++ cl) C env).cells.lookup y = some c := by
          show List.lookup y ((if own = true then [(x, C + 1)] else []) ++ cl) = some c
          cases own with
          | false => simpa using h5
          | true => simp [List.lookup_cons, hb, h5]
        have hcmy : cmIn own x ov cm y = some u := by
          unfold cmIn
          rw [if_neg (fun q => by have := q.2; subst this; simp at hb)]
          exact hcm
        unfold valOf
        rcases hky with hky | hky
        · rw [hky]; simp only [hl, Option.bind_some]; exact hcmy
        · rw [hky]; simp only [hl, Option.bind_some]; exact hcmy
      · exact e.w.mono keep (Ent.refr hpu hX')

/-- one loop of a comprehension -/
theorem comp_block {elt iter : Expr} {x : Str} {px : Pos} {ifs : List Expr} {scope : Scope} {pos : Pos} {own : Bool} {A : Around} {s₂ : Shared} {h₀ : Heap} {X : XS} {it : Value} {Ps : List HV} {fs : List (Option HV)} {cl : List (Str × Addr)}
    {E : Value → Shared → Prop} {RR : Value → Addr → Result → Shared → Prop} (R : Room A r) (hk : env.scope.kind = .function) (CO : CompOk env ρ scope x own) (kK : Sub K h₀) (S : Sat env ρ X h₀) (CS : CompSt env ρ scope cl)
    (keep₀ : ∀ b o, h₀.get? b = some o → s₂.heap.get? b = some o) (hlen : fs.length = Ps.length) (hsz : Ps.length ≤ sizeLine) (T : ItSt prog w X h₀ s₂.heap it Ps)
    (htest : ∀ (cs : List (Str × Addr)) (C : Addr) (i : Nat) (P : HV) (f : Option HV), Ps[i]? = some P → fs[i]? = some f → CT prog w K (compEnvC scope cs C env) r ((x, .imm P) :: freeOf scope ρ) ifs f.isSome)
    (helt : ∀ (cs : List (Str × Addr)) (C : Addr) (i : Nat) (P P' : HV), Ps[i]? = some P → fs[i]? = some (some P') → Ev prog w K (compEnvC scope cs C env) r ((x, .imm P) :: freeOf scope ρ) elt P'.w)
    (hRR : ∀ D C H tk m' ys, s₂.heap.get? D = none → s₂.heap.get? C = none → D ≠ C → H.Ns C m' → (∀ b o, h₀.get? b = some o → H.get? b = some o) → H.PlainList D ys →
      All2 (fun (P : HV) u => P.p (fun b => X b ∨ b = C ∨ b = D) H u) (fs.filterMap id) ys.toList → RR (.ref D) C (.ok .next) { s₂ with heap := H, toks := tk }) :
    wpAny (model prog w) A (newList []) (fun acc s₃ => wpAny (model prog w) A (newFunctionEnv scope env.globals cl [] env.qual none .none (some env)) (fun cenv s₄ =>
      codeAny (model prog w) A (.compStart (.ListComp elt [⟨.Name x px, iter, ifs, 0⟩] scope pos) 0 it acc { cenv with scope := relabel scope env }) (RR acc cenv.locals) s₄) E s₃) E s₂ := by
  refine wpAny_newObj_type (wpAny_newCompEnv ?_)
  rw [CO.cells, CO.push]
  dsimp only
  generalize hD : s₂.heap.objs.size = D
  have hC : (s₂.heap.push { cls := .type "list", dict := none, data := .seq ([] : List Value).toArray }).objs.size = D + 1 := by rw [Heap.size_push, hD]
  rw [hC]
  generalize hH1 : (if own = true then ((s₂.heap.push { cls := .type "list", dict := none, data := .seq ([] : List Value).toArray }).push { cls := .type "dict", data := .dict #[] }).push { cls := .type "cell", data := .cell none } else (s₂.heap.push { cls := .type "list", dict := none, data := .seq ([] : List Value).toArray }).push { cls := .type "dict", data := .dict #[] }) = h₁
  have gD : (s₂.heap.push { cls := .type "list", dict := none, data := .seq ([] : List Value).toArray }).get? D = some { cls := .type "list", dict := none, data := .seq ([] : List Value).toArray } := hD ▸ Heap.get?_push_size _ rfl
  have gC : ((s₂.heap.push { cls := .type "list", dict := none, data := .seq ([] : List Value).toArray }).push { cls := .type "dict", data := .dict #[] }).Ns (D + 1) (fun _ => none) := hC ▸ Heap.Ns.new _ _
  have sz2 : ((s₂.heap.push { cls := .type "list", dict := none, data := .seq ([] : List Value).toArray }).push { cls := .type "dict", data := .dict #[] }).objs.size = D + 2 := by rw [Heap.size_push, hC]
  have up1 : ∀ b o, ((s₂.heap.push { cls := .type "list", dict := none, data := .seq ([] : List Value).toArray }).push { cls := .type "dict", data := .dict #[] }).get? b = some o → h₁.get? b = some o := by
    intro b o e
    rw [← hH1]; split
    · exact Heap.get?_push_of_some _ e
    · exact e
  have up : ∀ b o, s₂.heap.get? b = some o → h₁.get? b = some o := fun b o e => up1 _ _ (Heap.get?_push_of_some _ (Heap.get?_push_of_some _ e))
  have cell1 : own = true → h₁.IsCell (D + 1 + 1) none := by
    intro q
    rw [← hH1, if_pos q]
    exact ⟨_, sz2 ▸ Heap.get?_push_size _ rfl, rfl⟩
  have fr : ∀ b, D ≤ b → s₂.heap.get? b = none := fun b hb => Heap.get?_none_of_le (hD ▸ hb)
  have fr0 : ∀ b, D ≤ b → h₀.get? b = none := fun b hb => by
    cases e : h₀.get? b with
    | none => rfl
    | some o => have := keep₀ _ _ e; rw [fr b hb] at this; cases this
  obtain ⟨I, fp, wr, P, St, rfl, walks, st, live, base, off, new, item⟩ := T
  have W := walks A R.hh
  have fpD : ∀ b ∈ fp, b < D := fun b hb => by
    rcases Nat.lt_or_ge b D with q | q
    · exact q
    · have := base b hb; rw [fr b q] at this; cases this
  have wrD : ∀ b ∈ wr, b < D := fun b hb => fpD b (W.sub b hb)
  let X' : XS := fun b => X b ∨ b ∈ wr ∨ b = D ∨ b = D + 1 ∨ (own = true ∧ b = D + 1 + 1)
  have hX' : ∀ b, X' b → X b ∨ h₀.get? b = none := by
    rintro b (q | q | rfl | rfl | ⟨_, rfl⟩)
    · exact .inl q
    · exact .inr (new b q)
    · exact .inr (fr0 _ (Nat.le_refl _))
    · exact .inr (fr0 _ (by lia))
    · exact .inr (fr0 _ (by lia))
  obtain ⟨hX, m, cm, F, V⟩ := S
  let cenv : Env := compEnvC scope ((if own = true then [(x, D + 1 + 1)] else []) ++ cl) (D + 1) env
  have hkx : cenv.kindOf x = some (if own = true then .cell else .local) := by
    show List.lookup x (relabel scope env).names = _
    unfold relabel
    rw [lookup_relabel CO.var]
    cases own <;> rfl
  have keepB : ∀ {H : Heap}, (∀ b o, b ∉ wr → b ≠ D → b ≠ D + 1 → (own = true → b ≠ D + 1 + 1) → h₁.get? b = some o → H.get? b = some o) → ∀ b o, h₀.get? b = some o → H.get? b = some o := by
    intro H q b o e
    have hb : b < D := by
      rcases Nat.lt_or_ge b D with q | q
      · exact q
      · rw [fr0 b q] at e; cases e
    exact q b o (fun z => by rw [new b z] at e; cases e) (Nat.ne_of_lt hb) (Nat.ne_of_lt (Nat.lt_succ_of_lt hb)) (fun _ => Nat.ne_of_lt (Nat.lt_succ_of_lt (Nat.lt_succ_of_lt hb))) (up _ _ (keep₀ _ _ e))
  have loop : ∀ s₃ : Shared, (∃ tk, s₃ = { s₂ with heap := h₁, toks := tk }) → codeAny (model prog w) A (.compLoop (.ListComp elt [⟨.Name x px, iter, ifs, 0⟩] scope pos) 0 (.ref I) (.ref D) cenv) (RR (.ref D) (D + 1)) s₃ := by
    rintro s₃ ⟨tk₀, rfl⟩
    refine codeAny_compLoop_tests
      (fun k s' => ∃ H tk m' ov ys i, s' = { s₂ with heap := H, toks := tk } ∧ St i H ∧ H.PlainList D ys ∧ H.Ns (D + 1) m' ∧ (own = true → H.IsCell (D + 1 + 1) ov) ∧
        All2 (fun (P : HV) u => P.p X' H u) ((fs.take i).filterMap id) ys.toList ∧ i ≤ Ps.length ∧ k = Ps.length + 1 - i ∧
        (∀ b o, b ∉ wr → b ≠ D → b ≠ D + 1 → (own = true → b ≠ D + 1 + 1) → h₁.get? b = some o → H.get? b = some o)) ?_ (Ps.length + 1)
      ⟨h₁, _, _, none, #[], 0, rfl, W.frame _ _ _ st (fun b _ o e => up b o e), ⟨_, up1 _ _ (Heap.get?_push_of_some _ gD)⟩, gC.keeps up1, cell1, trivial, Nat.zero_le _, rfl, fun _ _ _ _ _ _ e => e⟩
    rintro k s' ⟨H, tk, m', ov, ys, i, rfl, st', hacc, hn, hcell, hys, hi, rfl, hkeep⟩
    have hDC : D ≠ D + 1 := Nat.ne_of_lt (Nat.lt_succ_self _)
    have hDK : D ≠ D + 1 + 1 := Nat.ne_of_lt (Nat.lt_succ_of_lt (Nat.lt_succ_self _))
    have hCK : D + 1 ≠ D + 1 + 1 := Nat.ne_of_lt (Nat.lt_succ_self _)
    have hDw : D ∉ wr := fun z => Nat.lt_irrefl _ (wrD _ z)
    have hCw : D + 1 ∉ wr := fun z => Nat.lt_irrefl _ (Nat.lt_of_succ_lt (wrD _ z))
    have hKw : D + 1 + 1 ∉ wr := fun z => Nat.lt_irrefl _ (Nat.lt_of_succ_lt (Nat.lt_of_succ_lt (wrD _ z)))
    rcases Nat.lt_or_ge i Ps.length with hlt | hge
    · refine W.item i _ _ _ hlt st' fun v h₂ t₂ hP st₂ k₂ => ?_
      obtain ⟨Pi, hPi⟩ : ∃ Q, Ps[i]? = some Q := ⟨_, List.getElem?_eq_getElem hlt⟩
      obtain ⟨f, hf⟩ : ∃ f, fs[i]? = some f := ⟨_, List.getElem?_eq_getElem (hlen ▸ hlt)⟩
      have hpv := item i v Pi hPi hP
      have step : ∀ h₃ m₃ ov₃ t₃, h₃.Ns (D + 1) m₃ → (own = true → h₃.IsCell (D + 1 + 1) ov₃) → (if own = true then ov₃ = some v else m₃ x = some v) →
          (∀ b o, b ≠ D + 1 → (own = true → b ≠ D + 1 + 1) → h₂.get? b = some o → h₃.get? b = some o) →
          wpAny (model prog w) A (forIn ifs true fun c r => if r = true then do let ok ← isTrue c cenv (eval c cenv); pure (ForInStep.yield ok) else pure (ForInStep.yield r)) (fun ok s₃ =>
            if ok = true then wpAny (model prog w) A (eval elt cenv) (fun x_1 s₄ =>
              wpAny (model prog w) A (call (.builtin "list.append") [.ref D, x_1]) (fun _ s₅ => ∃ m_1, m_1 < Ps.length + 1 - i ∧ ∃ H tk m' ov ys j, s₅ = { s₂ with heap := H, toks := tk } ∧ St j H ∧ H.PlainList D ys ∧ H.Ns (D + 1) m' ∧ (own = true → H.IsCell (D + 1 + 1) ov) ∧
                All2 (fun (P : HV) u => P.p X' H u) ((fs.take j).filterMap id) ys.toList ∧ j ≤ Ps.length ∧ m_1 = Ps.length + 1 - j ∧
                (∀ b o, b ∉ wr → b ≠ D → b ≠ D + 1 → (own = true → b ≠ D + 1 + 1) → h₁.get? b = some o → H.get? b = some o)) (notedBy (model prog w) A cenv fun e s' => RR (.ref D) (D + 1) (.error e) s') s₄) (notedBy (model prog w) A cenv fun e s' => RR (.ref D) (D + 1) (.error e) s') s₃
            else ∃ m_1, m_1 < Ps.length + 1 - i ∧ ∃ H tk m' ov ys j, s₃ = { s₂ with heap := H, toks := tk } ∧ St j H ∧ H.PlainList D ys ∧ H.Ns (D + 1) m' ∧ (own = true → H.IsCell (D + 1 + 1) ov) ∧
                All2 (fun (P : HV) u => P.p X' H u) ((fs.take j).filterMap id) ys.toList ∧ j ≤ Ps.length ∧ m_1 = Ps.length + 1 - j ∧
                (∀ b o, b ∉ wr → b ≠ D → b ≠ D + 1 → (own = true → b ≠ D + 1 + 1) → h₁.get? b = some o → H.get? b = some o)) (notedBy (model prog w) A cenv fun e s' => RR (.ref D) (D + 1) (.error e) s') { s₂ with heap := h₃, toks := t₃ } := by
        intro h₃ m₃ ov₃ t₃ hn₃ hc₃ hv₃ k₃
        have keep3 : ∀ b o, b ∉ wr → b ≠ D → b ≠ D + 1 → (own = true → b ≠ D + 1 + 1) → h₁.get? b = some o → h₃.get? b = some o := fun b o a1 a2 a3 a4 e => k₃ b o a3 a4 (k₂ b o a1 (hkeep b o a1 a2 a3 a4 e))
        have st₃ : St (i + 1) h₃ := W.frame _ _ _ st₂ fun b hb o e => k₃ b o (fun z => by subst z; exact Nat.lt_irrefl _ (Nat.lt_of_succ_lt (fpD _ hb))) (fun _ z => by subst z; exact Nat.lt_irrefl _ (Nat.lt_of_succ_lt (Nat.lt_of_succ_lt (fpD _ hb)))) e
        have hacc₃ : h₃.PlainList D ys := hacc.at fun o e => k₃ D o hDC (fun _ => hDK) (k₂ D o hDw e)
        have live₃ : ∀ b, X' b → (h₃.get? b).isSome = true := by
          rintro b (q | q | rfl | rfl | ⟨hown, rfl⟩)
          · obtain ⟨o, ho⟩ := Option.isSome_iff_exists.mp (hX b q)
            rw [keepB keep3 b o ho]; rfl
          · exact live _ _ _ st₃ q
          · obtain ⟨n, e⟩ := hacc₃; exact liveAt e
          · obtain ⟨o, _, _, e, _⟩ := hn₃; exact liveAt e
          · obtain ⟨o, e, _⟩ := hc₃ hown; exact liveAt e
        have pv₃ : Pi.p X' h₃ v := by
          refine Pi.frame (h := s₂.heap) (fun b o hb e => keep3 b o (fun z => hb (.inr (.inl z))) (fun z => hb (.inr (.inr (.inl z)))) (fun z => hb (.inr (.inr (.inr (.inl z))))) (fun hown z => hb (.inr (.inr (.inr (.inr ⟨hown, z⟩))))) (up b o e)) (Pi.refr (fun b q => ?_) hpv)
          rcases q with q | q | rfl | rfl | ⟨_, rfl⟩
          · exact .inl (.inl q)
          · exact .inl (.inr q)
          · exact .inr (fr _ (Nat.le_refl _))
          · exact .inr (fr _ (by lia))
          · exact .inr (fr _ (by lia))
        have S₃ := compSat (x := x) (H := h₃) (C := D + 1) CO CS F V hk hX' live₃ (keepB keep3) hn₃ hc₃ hv₃ pv₃
        have ys₃ : All2 (fun (P : HV) u => P.p X' h₃ u) ((fs.take i).filterMap id) ys.toList := hys.imp fun P u hu => P.frame (fun b o hb e => k₃ b o (fun z => hb (.inr (.inr (.inr (.inl z))))) (fun hown z => hb (.inr (.inr (.inr (.inr ⟨hown, z⟩))))) (k₂ b o (fun z => hb (.inr (.inl z))) e)) hu
        have hsn : fs.take (i + 1) = fs.take i ++ [f] := by rw [List.take_add_one, hf]; rfl
        refine ct_run (htest _ _ i Pi f hPi hf) R (kK.keeps (keepB keep3)) S₃ fun h₄ t₄ k₄ => ?_
        cases f with
        | none =>
          simp only [Option.isSome_none, Bool.false_eq_true, if_false]
          refine ⟨Ps.length + 1 - (i + 1), by lia, h₄, t₄, m₃, ov₃, ys, i + 1, rfl, W.frame _ _ _ st₃ (fun b _ o e => k₄ b o e), hacc₃.at (k₄ _), hn₃.keeps k₄, fun q => (hc₃ q).keeps k₄, ?_, hlt, rfl, fun b o a1 a2 a3 a4 e => k₄ b o (keep3 b o a1 a2 a3 a4 e)⟩
          rw [hsn, List.filterMap_append]
          simpa using ys₃.imp fun P u hu => P.frame (fun b o _ e => k₄ b o e) hu
        | some P' =>
          simp only [Option.isSome_some, if_true]
          refine helt _ _ i Pi P' hPi hf A _ X' _ _ R ((kK.keeps (keepB keep3)).keeps k₄) (S₃.keeps k₄) fun y h₅ t₅ k₅ py => ?_
          have hacc₅ : h₅.PlainList D ys := (hacc₃.at (k₄ _)).at (k₅ _)
          have hys5 : ys.size ≤ sizeLine := by
            have e1 := hys.length
            have e2 : ((fs.take i).filterMap id).length ≤ (fs.take i).length := List.length_filterMap_le _ _
            have e3 : (fs.take i).length ≤ i := by rw [List.length_take]; lia
            have e4 : ys.toList.length = ys.size := by simp
            lia
          refine wpAny_list_append_plain (hsz := hys5) hacc₅ fun h₆ hl₆ hs₆ => ?_
          refine ⟨Ps.length + 1 - (i + 1), by lia, h₆, t₅, m₃, ov₃, ys.push y, i + 1, rfl, W.frame _ _ _ st₃ (fun b hb o e => hs₆.extBut b o (Nat.ne_of_lt (fpD b hb)) (k₅ b o (k₄ b o e))), hl₆, ((hn₃.keeps k₄).keeps k₅).sameBut hs₆ (Ne.symm hDC),
            fun q => (((hc₃ q).keeps k₄).keeps k₅).sameBut hs₆ (Ne.symm hDK), ?_, hlt, rfl, fun b o a1 a2 a3 a4 e => hs₆.extBut b o a2 (k₅ b o (k₄ b o (keep3 b o a1 a2 a3 a4 e)))⟩
          rw [hsn, List.filterMap_append, Array.toList_push]
          refine All2.append (ys₃.imp fun P u hu => P.frame (fun b o hb e => hs₆.extBut b o (fun z => hb (.inr (.inr (.inl z)))) (k₅ b o (k₄ b o e))) hu) ⟨?_, trivial⟩
          exact P'.frame (fun b o hb e => hs₆.extBut b o (fun z => hb (.inr (.inr (.inl z)))) e) py
      have hC0 : h₂.Ns (D + 1) m' := hn.at' fun o e => k₂ _ o hCw e
      cases hown : own with
      | false =>
        refine wpAny_assign_Name (wpAny_storeName_local (by rw [hkx, hown]; rfl) hC0 (fun h₃ hn₃ hs₃ => ?_) (by show (scope.kind == .class || (scope.kind == .module && _)) = false; rw [CO.kind]; rfl))
        subst hown
        exact step h₃ _ none _ hn₃ (fun q => by cases q) (by simp) fun b o a1 _ e => hs₃.extBut b o a1 e
      | true =>
        have hcl : cenv.cells.lookup x = some (D + 1 + 1) := by
          show List.lookup x ((if own = true then [(x, D + 1 + 1)] else []) ++ cl) = _
          rw [hown]; simp
        refine wpAny_assign_Name (wpAny_storeName_cell (show cenv.scope.kind = .function from CO.kind) (by rw [hkx, hown]; rfl) hcl ((show h₂.IsCell (D + 1 + 1) ov from ?_)) fun h₃ hc₃ hs₃ => ?_)
        · obtain ⟨o, e, q⟩ := hcell hown
          exact ⟨o, k₂ _ o hKw e, q⟩
        · subst hown
          exact step h₃ m' (some v) _ (hC0.sameBut hs₃ hCK) (fun _ => hc₃) (by simp) fun b o _ a2 e => hs₃.extBut b o (a2 rfl) e
    · obtain rfl : i = Ps.length := Nat.le_antisymm hi hge
      refine W.done _ _ _ st' fun h₂ t₂ k₂ => ?_
      refine hRR D (D + 1) h₂ t₂ m' ys (fr _ (Nat.le_refl _)) (fr _ (by lia)) hDC (hn.at' fun o e => k₂ _ o hCw e) (keepB fun b o a1 a2 a3 a4 e => k₂ b o a1 (hkeep b o a1 a2 a3 a4 e)) (hacc.at fun o e => k₂ D o hDw e) ?_
      rw [← hlen, List.take_length] at hys
      refine hys.imp fun P u hu => P.refr (fun b q => ?_) (P.frame (fun b o hb e => k₂ b o (fun z => hb (.inr (.inl z))) e) hu)
      rcases q with q | rfl | rfl
      · exact .inl (.inl q)
      · exact .inl (.inr (.inr (.inr (.inl rfl))))
      · exact .inl (.inr (.inr (.inl rfl)))
  exact codeAny_compStart_list (loop _ ⟨_, rfl⟩) (W.self 0 _ _ _ (W.frame _ _ _ st (fun b _ o e => up b o e)) (loop _ ⟨_, rfl⟩))

theorem ev_comp {elt iter : Expr} {x : Str} {px : Pos} {ifs : List Expr} {scope : Scope} {pos : Pos} {own : Bool} {Ps : List HV} (fs : List (Option HV)) (hk : env.scope.kind = .function) (CO : CompOk env ρ scope x own)
    (hit : It prog w K env r ρ iter Ps) (hlen : fs.length = Ps.length) (hsz : Ps.length ≤ sizeLine)
    (htest : ∀ (cs : List (Str × Addr)) (C : Addr) (i : Nat) (P : HV) (f : Option HV), Ps[i]? = some P → fs[i]? = some f → CT prog w K (compEnvC scope cs C env) r ((x, .imm P) :: freeOf scope ρ) ifs f.isSome)
    (helt : ∀ (cs : List (Str × Addr)) (C : Addr) (i : Nat) (P P' : HV), Ps[i]? = some P → fs[i]? = some (some P') → Ev prog w K (compEnvC scope cs C env) r ((x, .imm P) :: freeOf scope ρ) elt P'.w)
    (hs : ∀ x, foldedSetIterable iter env x = pure x := by intro _; rfl) :
    Ev prog w K env r ρ (.ListComp elt [⟨.Name x px, iter, ifs, 0⟩] scope pos) (TList (fs.filterMap id)) := by
  intro A s X Q E R k S c
  have ⟨hX, m, cm, F, V⟩ := S
  have CS := compSt CO V
  rw [eval_ListComp]
  refine wpAny_comprehension_free (use := none) rfl hs CS.clos CO.kind CO.names (hit A s X _ _ R k S fun it h' tk k₁ T => ?_)
  obtain ⟨T⟩ := T
  refine comp_block (RR := fun acc C => compPost (model prog w) A E none Q acc C) R hk CO k S CS k₁ hlen hsz T htest helt ?_
  intro D C H tk' m' ys hD hC hDC hn hkeep hpl hys
  refine ⟨m', hn, fun H' hs' => ?_⟩
  have hC0 : s.heap.get? C = none := by
    cases e : s.heap.get? C with
    | none => rfl
    | some o => have := k₁ _ _ e; rw [hC] at this; cases this
  have hD0 : s.heap.get? D = none := by
    cases e : s.heap.get? D with
    | none => rfl
    | some o => have := k₁ _ _ e; rw [hD] at this; cases this
  have hpl' := hpl.extBut hs'.extBut hDC
  obtain ⟨n, hD'⟩ := hpl'
  refine c _ H' tk' (fun b o e => hs'.extBut b o (by rintro rfl; rw [hC0] at e; cases e) (hkeep b o e)) ⟨⟨D, rfl, notIn hX hD0⟩, D, ys, n, rfl, hD', ?_⟩
  exact hys.imp fun P u hu => P.refr (fun b q => .inl (.inl q)) (P.frame (fun b o hb e => hs'.extBut b o (fun z => hb (.inr (.inl z))) e) hu)
end
end Mine

namespace Mine
open PySem PySem.Calls

structure Own (env : Env) (ρ : Ctx) (W : XS) (m cm : Str → Option Value) : Prop where
  inW : ∀ x e, ρ.lookup x = some e → e.isOwn = true → ∃ a, valOf env m cm x = some (.ref a) ∧ W a ∧ a ≠ env.locals ∧ ∀ n c, env.cells.lookup n = some c → c ≠ a
  sep : ∀ x y ex ey a, x ≠ y → ρ.lookup x = some ex → ρ.lookup y = some ey → ex.isOwn = true → ey.isOwn = true → valOf env m cm x = some (.ref a) → valOf env m cm y ≠ some (.ref a)

structure Inv (env : Env) (K B : PM) (X₀ W : XS) (ρ : Ctx) (h : Heap) : Prop where
  kb : ∀ a o, K a = some o → B a = some o
  sub : Sub B h
  dom : ∀ b, X₀ b → (h.get? b).isSome = true ∧ ¬ W b
  off : ∀ b, W b → B b = none
  live : ∀ b, W b → (h.get? b).isSome = true
  wl : W env.locals
  wc : ∀ n c, env.cells.lookup n = some c → env.kindOf n = some .cell → W c
  apart : ∀ n n' c, env.cells.lookup n = some c → env.cells.lookup n' = some c → n = n'
  coff : ∀ n c, env.cells.lookup n = some c → c ≠ env.locals
  body : ∃ m cm, Fm env h m cm ∧ SatV env ρ (fun b => X₀ b ∨ W b) h m cm ∧ Own env ρ W m cm

inductive Out where
  | next (ρ : Ctx)
  | ret (P : HV)

noncomputable def Ends (env : Env) (K B : PM) (X₀ : XS) (O : Out) (f : Flow) (h : Heap) : Prop :=
  match O with
  | .next ρ => f = .next ∧ ∃ W, Inv env K B X₀ W ρ h
  | .ret P => ∃ v, f = .ret v ∧ Sub B h ∧ P.p X₀ h v

section
variable {env : Env} {K B : PM} {X₀ W : XS} {ρ : Ctx} {h h' : Heap}

theorem Inv.subK (I : Inv env K B X₀ W ρ h) : Sub K h := fun a o e => I.sub a o (I.kb a o e)
theorem Inv.sat (I : Inv env K B X₀ W ρ h) : Sat env ρ (fun b => X₀ b ∨ W b) h := by
  obtain ⟨m, cm, F, V, _⟩ := I.body
  refine ⟨fun b q => ?_, m, cm, F, V⟩
  rcases q with q | q
  · exact (I.dom b q).1
  · exact I.live b q
theorem Inv.keeps (I : Inv env K B X₀ W ρ h) (k : ∀ b o, h.get? b = some o → h'.get? b = some o) : Inv env K B X₀ W ρ h' := by
  obtain ⟨m, cm, F, V, O⟩ := I.body
  exact ⟨I.kb, I.sub.keeps k, fun b q => ⟨there_keeps (X := X₀) (fun b q => (I.dom b q).1) k b q, (I.dom b q).2⟩, I.off, there_keeps I.live k, I.wl, I.wc, I.apart, I.coff, m, cm, F.keeps k, V.keeps k, O⟩
theorem Inv.fewer {B' : PM} (I : Inv env K B X₀ W ρ h) (kb : ∀ a o, K a = some o → B' a = some o) (hs : ∀ a o, B' a = some o → B a = some o) : Inv env K B' X₀ W ρ h := by
  refine ⟨kb, fun a o e => I.sub a o (hs a o e), I.dom, fun b q => ?_, I.live, I.wl, I.wc, I.apart, I.coff, I.body⟩
  cases e : B' b with
  | none => rfl
  | some o => have := hs b o e; rw [I.off b q] at this; cases this
theorem Inv.less {ρ' : Ctx} (I : Inv env K B X₀ W ρ h) (hl : ∀ x e, ρ'.lookup x = some e → ρ.lookup x = some e) : Inv env K B X₀ W ρ' h := by
  obtain ⟨m, cm, F, V, O⟩ := I.body
  exact ⟨I.kb, I.sub, I.dom, I.off, I.live, I.wl, I.wc, I.apart, I.coff, m, cm, F, fun x e hx => V x e (hl x e hx), fun x e hx => O.inW x e (hl x e hx), fun x y ex ey a n hx hy => O.sep x y ex ey a n (hl x ex hx) (hl y ey hy)⟩
end

/-! ### stores of a name -/
noncomputable def setM (env : Env) (x : Str) (v : Value) (m : Str → Option Value) : Str → Option Value := if env.kindOf x = some .local then fun y => if y = x then some v else m y else m
noncomputable def setC (env : Env) (x : Str) (v : Value) (cm : Str → Option Value) : Str → Option Value := if env.kindOf x = some .local then cm else fun y => if y = x then some v else cm y

/-- where x lies -/
noncomputable def homeOf (env : Env) (x : Str) (b : Addr) : Prop := if env.kindOf x = some .local then b = env.locals else env.cells.lookup x = some b

structure CanStore (env : Env) (x : Str) : Prop where
  kind : env.scope.kind = .function
  ok : env.kindOf x = some .local ∨ (env.kindOf x = some .cell ∧ (env.cells.lookup x).isSome = true)

theorem valOf_set_self {env : Env} {x : Str} {v : Value} {m cm : Str → Option Value} (C : CanStore env x) : valOf env (setM env x v m) (setC env x v cm) x = some v := by
  unfold valOf
  rcases C.ok with h | ⟨h, hc⟩
  · rw [h]; simp [setM, h]
  · obtain ⟨c, hc⟩ := Option.isSome_iff_exists.mp hc
    rw [h]; simp [setC, h, hc]
theorem valOf_set_other {env : Env} {x y : Str} {v : Value} {m cm : Str → Option Value} (hne : y ≠ x) : valOf env (setM env x v m) (setC env x v cm) y = valOf env m cm y := by
  have e1 : setM env x v m y = m y := by unfold setM; split <;> simp [hne]
  have e2 : setC env x v cm y = cm y := by unfold setC; split <;> simp [hne]
  unfold valOf
  rw [e1, e2]

section
variable {prog : Program} {w : World} {env : Env} {K B : PM} {X₀ W : XS} {ρ : Ctx}

theorem store_run {A : Around} {s : Shared} {x : Str} {v : Value} {m cm : Str → Option Value} {Q : Unit → Shared → Prop} {E : Value → Shared → Prop} (C : CanStore env x) (F : Fm env s.heap m cm)
    (apart : ∀ n n' c, env.cells.lookup n = some c → env.cells.lookup n' = some c → n = n') (coff : ∀ n c, env.cells.lookup n = some c → c ≠ env.locals)
    (c : ∀ h' tk, Fm env h' (setM env x v m) (setC env x v cm) → (∀ b o, ¬ homeOf env x b → s.heap.get? b = some o → h'.get? b = some o) → (∀ b, (s.heap.get? b).isSome = true → (h'.get? b).isSome = true) → Q () { s with heap := h', toks := tk }) :
    wpAny (model prog w) A (storeName env x v) Q E s := by
  rcases C.ok with h | ⟨h, hc⟩
  · refine wpAny_storeName_local h F.ns (fun h' hn' hs' => c h' _ ⟨?_, fun n c' hc' => ?_⟩ (fun b o hb e => ?_) fun b hb => ?_) (by rw [C.kind]; rfl)
    · simpa [setM, h] using hn'
    · have : setC env x v cm = cm := by simp [setC, h]
      rw [this]
      exact (F.cell n c' hc').sameBut hs' (coff n c' hc')
    · simp only [homeOf, h, if_true] at hb
      exact hs'.extBut b o hb e
    · by_cases q : b = env.locals
      · subst q; obtain ⟨o, _, _, e, _⟩ := hn'; exact liveAt e
      · obtain ⟨o, ho⟩ := Option.isSome_iff_exists.mp hb
        exact liveAt (hs'.extBut b o q ho)
  · obtain ⟨cc, hcc⟩ := Option.isSome_iff_exists.mp hc
    have hnl : ¬ env.kindOf x = some .local := by rw [h]; decide
    refine wpAny_storeName_cell C.kind h hcc (F.cell x cc hcc) fun h' hc' hs' => c h' s.toks ⟨?_, fun n c' hn' => ?_⟩ (fun b o hb e => ?_) fun b hb => ?_
    · have : setM env x v m = m := by simp [setM, h]
      rw [this]
      exact F.ns.sameBut hs' (Ne.symm (coff x cc hcc))
    · by_cases hnx : n = x
      · subst hnx
        rw [hcc] at hn'; cases hn'
        simpa [setC, hnl] using hc'
      · have : setC env x v cm n = cm n := by simp [setC, hnl, hnx]
        rw [this]
        exact (F.cell n c' hn').sameBut hs' fun e => hnx (apart n x cc (e ▸ hn') hcc)
    · simp only [homeOf, hnl, if_false, hcc, Option.some.injEq] at hb
      exact hs'.extBut b o (fun e => hb e.symm) e
    · by_cases q : b = cc
      · subst q; obtain ⟨o, e, _⟩ := hc'; exact liveAt e
      · obtain ⟨o, ho⟩ := Option.isSome_iff_exists.mp hb
        exact liveAt (hs'.extBut b o q ho)

theorem Inv.home {h : Heap} (I : Inv env K B X₀ W ρ h) {x : Str} (C : CanStore env x) {b : Addr} (hb : homeOf env x b) : W b := by
  unfold homeOf at hb
  rcases C.ok with q | ⟨q, _⟩
  · rw [if_pos q] at hb; subst hb; exact I.wl
  · rw [if_neg (by rw [q]; decide)] at hb
    exact I.wc x b hb q

/-- after a store: own containers stand where they stood -/
theorem own_keep {X : XS} {h h' : Heap} {e : Ent} {a : Addr} (ho : e.isOwn = true) (p : e.w.p X h (.ref a)) (ha : ∀ o, h.get? a = some o → h'.get? a = some o) (k : ∀ b o, ¬ X b → h.get? b = some o → h'.get? b = some o) : e.w.p X h' (.ref a) := by
  cases e with
  | imm P => cases ho
  | ownS cls Ps =>
    obtain ⟨a', vs, n, e1, hg, hi⟩ := p
    cases e1
    exact ⟨a, vs, n, rfl, ha _ hg, hi.imp fun P u hu => P.frame k hu⟩
  | ownD knd kvs =>
    obtain ⟨a', us, e1, hs, hg, hi⟩ := p
    cases e1
    exact ⟨a, us, rfl, hs, dictOf_at hg ha, hi.imp fun x y hu => ⟨hu.1, x.2.frame k hu.2⟩⟩

/-- a name is bound to a value that holds no open thing -/
theorem bind_imm {A : Around} {s : Shared} {x : Str} {v : Value} {P : HV} {Q : Unit → Shared → Prop} {E : Value → Shared → Prop} (I : Inv env K B X₀ W ρ s.heap) (C : CanStore env x) (hp : P.p (fun b => X₀ b ∨ W b) s.heap v)
    (c : ∀ h' tk, Inv env K B X₀ W ((x, .imm P) :: ρ) h' → (∀ b o, ¬ W b → s.heap.get? b = some o → h'.get? b = some o) → Q () { s with heap := h', toks := tk }) :
    wpAny (model prog w) A (storeName env x v) Q E s := by
  obtain ⟨m, cm, F, V, O⟩ := I.body
  refine store_run C F I.apart I.coff fun h' tk F' k' l' => ?_
  have kW : ∀ b o, ¬ W b → s.heap.get? b = some o → h'.get? b = some o := fun b o hb e => k' b o (fun q => hb (I.home C q)) e
  have kX : ∀ b o, ¬ (X₀ b ∨ W b) → s.heap.get? b = some o → h'.get? b = some o := fun b o hb e => kW b o (fun q => hb (.inr q)) e
  refine c h' tk ⟨I.kb, fun a o e => ?_, fun b q => ⟨l' b (I.dom b q).1, (I.dom b q).2⟩, I.off, fun b q => l' b (I.live b q), I.wl, I.wc, I.apart, I.coff, _, _, F', fun y e hy => ?_, ⟨fun y e hy ho => ?_, fun y z ey ez a hne hy hz hoy hoz hv => ?_⟩⟩ kW
  · exact kW a o (fun q => by rw [I.off a q] at e; cases e) (I.sub a o e)
  · rw [List.lookup_cons] at hy
    cases hb : y == x with
    | true =>
      rw [hb] at hy; cases hy
      rw [eq_of_beq hb]
      exact ⟨v, valOf_set_self C, P.frame kX hp⟩
    | false =>
      rw [hb] at hy
      have hne : y ≠ x := by simpa using hb
      obtain ⟨u, hu, hpu⟩ := V y e hy
      refine ⟨u, by rw [valOf_set_other hne]; exact hu, ?_⟩
      cases hown : e.isOwn with
      | false =>
        cases e with
        | imm R => exact R.frame kX hpu
        | ownS _ _ => cases hown
        | ownD _ _ => cases hown
      | true =>
        obtain ⟨a, ha, _, hal, hac⟩ := O.inW y e hy hown
        rw [hu] at ha; cases ha
        refine own_keep hown hpu (fun o e' => k' a o (fun q => ?_) e') kX
        unfold homeOf at q
        split at q
        · exact hal q
        · exact hac _ _ q rfl
  · rw [List.lookup_cons] at hy
    cases hb : y == x with
    | true => rw [hb] at hy; cases hy; cases ho
    | false =>
      rw [hb] at hy
      have hne : y ≠ x := by simpa using hb
      rw [valOf_set_other hne]
      exact O.inW y e hy ho
  · rw [List.lookup_cons] at hy hz
    cases hb : y == x with
    | true => rw [hb] at hy; cases hy; cases hoy
    | false =>
      cases hb2 : z == x with
      | true => rw [hb2] at hz; cases hz; cases hoz
      | false =>
        rw [hb] at hy; rw [hb2] at hz
        have hne1 : y ≠ x := by simpa using hb
        have hne2 : z ≠ x := by simpa using hb2
        rw [valOf_set_other hne1] at hv
        rw [valOf_set_other hne2]
        exact O.sep y z ey ez a hne hy hz hoy hoz hv

/-- a name is bound to a container made now -/
theorem bind_own {A : Around} {s : Shared} {h₀ : Heap} {x : Str} {a : Addr} {e : Ent} {Q : Unit → Shared → Prop} {E : Value → Shared → Prop} (I : Inv env K B X₀ W ρ h₀) (C : CanStore env x) (k₀ : ∀ b o, h₀.get? b = some o → s.heap.get? b = some o)
    (hnew : h₀.get? a = none) (hlive : (s.heap.get? a).isSome = true) (ho : e.isOwn = true) (hp : e.w.p (fun b => X₀ b ∨ W b ∨ b = a) s.heap (.ref a))
    (c : ∀ h' tk, Inv env K B X₀ (fun b => W b ∨ b = a) ((x, e) :: ρ) h' → Q () { s with heap := h', toks := tk }) :
    wpAny (model prog w) A (storeName env x (.ref a)) Q E s := by
  have I₁ := I.keeps k₀
  obtain ⟨m, cm, F₀, V₀, O⟩ := I.body
  have F := F₀.keeps k₀
  have hal : a ≠ env.locals := by rintro rfl; have := I.live _ I.wl; rw [hnew] at this; cases this
  have hac : ∀ n c, env.cells.lookup n = some c → c ≠ a := by
    rintro n c' hc rfl
    obtain ⟨o, q, _⟩ := F₀.cell n _ hc
    rw [hnew] at q; cases q
  have hWa : ¬ W a := fun q => by have := I.live a q; rw [hnew] at this; cases this
  have hBa : B a = none := by
    cases q : B a with
    | none => rfl
    | some o => have := I.sub a o q; rw [hnew] at this; cases this
  refine store_run C F I.apart I.coff fun h' tk F' k' l' => ?_
  have hha : ¬ homeOf env x a := fun q => by
    unfold homeOf at q
    split at q
    · exact hal q
    · exact hac _ _ q rfl
  have kW : ∀ b o, ¬ W b → s.heap.get? b = some o → h'.get? b = some o := fun b o hb e => k' b o (fun q => hb (I.home C q)) e
  have kX : ∀ b o, ¬ (X₀ b ∨ W b) → s.heap.get? b = some o → h'.get? b = some o := fun b o hb e => kW b o (fun q => hb (.inr q)) e
  have kX' : ∀ b o, ¬ (X₀ b ∨ W b ∨ b = a) → s.heap.get? b = some o → h'.get? b = some o := fun b o hb e => kW b o (fun q => hb (.inr (.inl q))) e
  have V := (V₀.refr (X' := fun b => X₀ b ∨ W b ∨ b = a) (fun b q => by
    rcases q with q | q | rfl
    · exact .inl (.inl q)
    · exact .inl (.inr q)
    · exact .inr hnew)).keeps k₀
  have hXX : (fun b => X₀ b ∨ (W b ∨ b = a)) = fun b => X₀ b ∨ W b ∨ b = a := rfl
  refine c h' tk ⟨I.kb, fun b o e => ?_, fun b q => ⟨l' b (I₁.dom b q).1, fun z => z.elim (I.dom b q).2 fun z => by subst z; have := (I.dom b q).1; rw [hnew] at this; cases this⟩, fun b q => ?_, fun b q => ?_, .inl I.wl, fun n c hc hk => .inl (I.wc n c hc hk), I.apart, I.coff, _, _, F', fun y e' hy => ?_, ⟨fun y e' hy ho' => ?_, fun y z ey ez b hne hy hz hoy hoz hv => ?_⟩⟩
  · exact kW b o (fun q => by rw [I.off b q] at e; cases e) (I₁.sub b o e)
  · rcases q with q | rfl
    · exact I.off b q
    · exact hBa
  · rcases q with q | rfl
    · exact l' b (I₁.live b q)
    · exact l' b hlive
  · rw [List.lookup_cons] at hy
    cases hb : y == x with
    | true =>
      rw [hb] at hy; cases hy
      rw [eq_of_beq hb]
      exact ⟨.ref a, valOf_set_self C, own_keep ho hp (fun o q => k' a o hha q) kX'⟩
    | false =>
      rw [hb] at hy
      have hne : y ≠ x := by simpa using hb
      obtain ⟨u, hu, hpu⟩ := V y e' hy
      refine ⟨u, by rw [valOf_set_other hne]; exact hu, ?_⟩
      cases hown : e'.isOwn with
      | false =>
        cases e' with
        | imm R => exact R.frame kX' hpu
        | ownS _ _ => cases hown
        | ownD _ _ => cases hown
      | true =>
        obtain ⟨a', ha', _, hal', hac'⟩ := O.inW y e' hy hown
        rw [hu] at ha'; cases ha'
        refine own_keep hown hpu (fun o e' => k' a' o (fun q => ?_) e') kX'
        unfold homeOf at q
        split at q
        · exact hal' q
        · exact hac' _ _ q rfl
  · rw [List.lookup_cons] at hy
    cases hb : y == x with
    | true =>
      rw [eq_of_beq hb]
      exact ⟨a, valOf_set_self C, .inr rfl, hal, hac⟩
    | false =>
      rw [hb] at hy
      have hne : y ≠ x := by simpa using hb
      rw [valOf_set_other hne]
      obtain ⟨a', q1, q2, q3, q4⟩ := O.inW y e' hy ho'
      exact ⟨a', q1, .inl q2, q3, q4⟩
  · have old : ∀ y ey, ρ.lookup y = some ey → ey.isOwn = true → valOf env m cm y ≠ some (.ref a) := by
      intro y ey hy hoy q
      obtain ⟨a', q1, q2, _⟩ := O.inW y ey hy hoy
      rw [q] at q1; cases q1
      exact hWa q2
    rw [List.lookup_cons] at hy hz
    cases hb : y == x with
    | true =>
      have e1 := eq_of_beq hb
      subst e1
      rw [valOf_set_self C] at hv
      cases hv
      have hb2 : (z == y) = false := beq_eq_false_iff_ne.mpr (Ne.symm hne)
      rw [hb2] at hz
      rw [valOf_set_other (Ne.symm hne)]
      exact old z ez hz hoz
    | false =>
      rw [hb] at hy
      have hne1 : y ≠ x := by simpa using hb
      rw [valOf_set_other hne1] at hv
      cases hb2 : z == x with
      | true =>
        have e1 := eq_of_beq hb2
        subst e1
        rw [valOf_set_self C]
        intro q; cases q
        exact old y ey hy hoy hv
      | false =>
        rw [hb2] at hz
        have hne2 : z ≠ x := by simpa using hb2
        rw [valOf_set_other hne2]
        exact O.sep y z ey ez b hne hy hz hoy hoz hv

/-- an own container is written to -/
theorem Inv.poke {h h' : Heap} {x : Str} {e e' : Ent} {a : Addr} (I : Inv env K B X₀ W ρ h) (hx : ρ.lookup x = some e) (ho : e.isOwn = true) (ho' : e'.isOwn = true)
    (hv : ∀ m cm, Fm env h m cm → valOf env m cm x = some (.ref a)) (hs : Heap.SameBut a h h') (hp : e'.w.p (fun b => X₀ b ∨ W b) h' (.ref a)) (hlive : (h'.get? a).isSome = true) : Inv env K B X₀ W ((x, e') :: ρ) h' := by
  obtain ⟨m, cm, F, V, O⟩ := I.body
  have hva := hv m cm F
  obtain ⟨a', q1, hWa, hal, hac⟩ := O.inW x e hx ho
  rw [hva] at q1; cases q1
  have k : ∀ b o, b ≠ a → h.get? b = some o → h'.get? b = some o := fun b o hb e => hs.extBut b o hb e
  have kX : ∀ b o, ¬ (X₀ b ∨ W b) → h.get? b = some o → h'.get? b = some o := fun b o hb e => k b o (fun q => hb (.inr (q ▸ hWa))) e
  refine ⟨I.kb, fun b o e => ?_, fun b q => ⟨?_, (I.dom b q).2⟩, I.off, fun b q => ?_, I.wl, I.wc, I.apart, I.coff, m, cm, ⟨F.ns.sameBut hs (Ne.symm hal), fun n c hc => (F.cell n c hc).sameBut hs (hac n c hc)⟩, fun y ey hy => ?_, ⟨fun y ey hy hoy => ?_, fun y z ey ez b hne hy hz hoy hoz hvy => ?_⟩⟩
  · exact k b o (fun q => by subst q; rw [I.off b hWa] at e; cases e) (I.sub b o e)
  · obtain ⟨o, e⟩ := Option.isSome_iff_exists.mp (I.dom b q).1
    exact liveAt (k b o (fun z => (I.dom b q).2 (z ▸ hWa)) e)
  · by_cases q' : b = a
    · subst q'; exact hlive
    · obtain ⟨o, e⟩ := Option.isSome_iff_exists.mp (I.live b q)
      exact liveAt (k b o q' e)
  · rw [List.lookup_cons] at hy
    cases hb : y == x with
    | true => rw [hb] at hy; cases hy; rw [eq_of_beq hb]; exact ⟨_, hva, hp⟩
    | false =>
      rw [hb] at hy
      have hne : y ≠ x := by simpa using hb
      obtain ⟨u, hu, hpu⟩ := V y ey hy
      refine ⟨u, hu, ?_⟩
      cases hown : ey.isOwn with
      | false =>
        cases ey with
        | imm R => exact R.frame kX hpu
        | ownS _ _ => cases hown
        | ownD _ _ => cases hown
      | true =>
        obtain ⟨b, hb', _⟩ := O.inW y ey hy hown
        rw [hu] at hb'; cases hb'
        exact own_keep hown hpu (fun o q => k b o (fun z => O.sep x y e ey a (Ne.symm hne) hx hy ho hown hva (z ▸ hu)) q) kX
  · rw [List.lookup_cons] at hy
    cases hb : y == x with
    | true => rw [eq_of_beq hb]; exact O.inW x e hx ho
    | false => rw [hb] at hy; exact O.inW y ey hy hoy
  · rw [List.lookup_cons] at hy hz
    have ey' : ∃ ey', ρ.lookup y = some ey' ∧ ey'.isOwn = true := by
      cases hb : y == x with
      | true => rw [eq_of_beq hb]; exact ⟨e, hx, ho⟩
      | false => rw [hb] at hy; exact ⟨ey, hy, hoy⟩
    have ez' : ∃ ez', ρ.lookup z = some ez' ∧ ez'.isOwn = true := by
      cases hb : z == x with
      | true => rw [eq_of_beq hb]; exact ⟨e, hx, ho⟩
      | false => rw [hb] at hz; exact ⟨ez, hz, hoz⟩
    obtain ⟨ey', hy', hoy'⟩ := ey'
    obtain ⟨ez', hz', hoz'⟩ := ez'
    exact O.sep y z ey' ez' b hne hy' hz' hoy' hoz' hvy
end
end Mine

namespace Mine
open PySem PySem.Calls

theorem ns_uniq {h : Heap} {a : Addr} {m m' : Str → Option Value} (x : h.Ns a m) (y : h.Ns a m') : m = m' := by
  obtain ⟨o, es, ep, h1, h2, _, h3⟩ := x
  obtain ⟨o', es', ep', h1', h2', _, h3'⟩ := y
  rw [h1] at h1'; cases h1'
  rw [h2] at h2'; cases h2'
  funext n; rw [← h3, ← h3']
theorem cell_uniq {h : Heap} {c : Addr} {v v' : Option Value} (x : h.IsCell c v) (y : h.IsCell c v') : v = v' := by
  obtain ⟨o, h1, h2⟩ := x
  obtain ⟨o', h1', h2'⟩ := y
  rw [h1] at h1'; cases h1'
  rw [h2] at h2'; cases h2'; rfl
theorem Fm.uniq {env : Env} {h : Heap} {m cm m' cm' : Str → Option Value} (x : Fm env h m cm) (y : Fm env h m' cm') (n : Str) : valOf env m cm n = valOf env m' cm' n := by
  unfold valOf
  split
  · rw [ns_uniq x.ns y.ns]
  all_goals first
    | (cases hc : env.cells.lookup n with
       | none => rfl
       | some c => simp only [Option.bind_some]; exact cell_uniq (x.cell n c hc) (y.cell n c hc))
    | rfl

section
variable (prog : Program) (w : World) (K : PM)
noncomputable def Ex (env : Env) (r : Nat) (ρ : Ctx) (ss : List Stmt) (O : Out) : Prop :=
  ∀ (A : Around) (s : Shared) (B : PM) (X₀ W : XS) (Q : Flow → Shared → Prop) (E : Value → Shared → Prop), Room A r → Inv env K B X₀ W ρ s.heap →
    (∀ f h' tk, Ends env K B X₀ O f h' → Q f { s with heap := h', toks := tk }) → wpAny (model prog w) A (execs ss env) Q E s
noncomputable def ExS (env : Env) (r : Nat) (ρ : Ctx) (st : Stmt) (O : Out) : Prop :=
  ∀ (A : Around) (s : Shared) (B : PM) (X₀ W : XS) (Q : Flow → Shared → Prop) (E : Value → Shared → Prop), Room A r → Inv env K B X₀ W ρ s.heap →
    (∀ f h' tk, Ends env K B X₀ O f h' → Q f { s with heap := h', toks := tk }) → wpAny (model prog w) A (exec st env) Q E s
end

section
variable {prog : Program} {w : World} {K : PM} {gl : List (Str × Value)} {env : Env} {r : Nat} {ρ : Ctx}

theorem ex_nil : Ex prog w K env r ρ [] (.next ρ) :=
  fun A s B X₀ W Q E R I c => wpAny_execs_nil (c .next s.heap s.toks ⟨rfl, W, I⟩)
theorem ex_cons {st : Stmt} {ss : List Stmt} {ρ' : Ctx} {O : Out} (h : ExS prog w K env r ρ st (.next ρ')) (h2 : Ex prog w K env r ρ' ss O) : Ex prog w K env r ρ (st :: ss) O := by
  intro A s B X₀ W Q E R I c
  refine wpAny_execs_cons (h A s B X₀ W _ E R I ?_)
  rintro f h' tk ⟨rfl, W', I'⟩
  exact h2 A _ B X₀ W' Q E R I' c
theorem ex_ret {st : Stmt} {ss : List Stmt} {P : HV} (h : ExS prog w K env r ρ st (.ret P)) : Ex prog w K env r ρ (st :: ss) (.ret P) := by
  intro A s B X₀ W Q E R I c
  refine wpAny_execs_cons (h A s B X₀ W _ E R I ?_)
  rintro f h' tk ⟨v, rfl, q⟩
  exact c _ h' tk ⟨v, rfl, q⟩
/-- fewer names -/
theorem ex_less {ss : List Stmt} {ρ' : Ctx} {O : Out} (h : Ex prog w K env r ρ' ss O) (hl : ∀ x e, ρ'.lookup x = some e → ρ.lookup x = some e) : Ex prog w K env r ρ ss O :=
  fun A s B X₀ W Q E R I c => h A s B X₀ W Q E R (I.less hl) c
theorem ex_out {ss : List Stmt} {ρ₁ ρ₂ : Ctx} (h : Ex prog w K env r ρ ss (.next ρ₁)) (hl : ∀ x e, ρ₂.lookup x = some e → ρ₁.lookup x = some e) : Ex prog w K env r ρ ss (.next ρ₂) :=
  fun A s B X₀ W Q E R I c => h A s B X₀ W Q E R I fun f h' tk q => c f h' tk (by obtain ⟨e, W', I'⟩ := q; exact ⟨e, W', I'.less hl⟩)
theorem exs_out {st : Stmt} {ρ₁ ρ₂ : Ctx} (h : ExS prog w K env r ρ st (.next ρ₁)) (hl : ∀ x e, ρ₂.lookup x = some e → ρ₁.lookup x = some e) : ExS prog w K env r ρ st (.next ρ₂) :=
  fun A s B X₀ W Q E R I c => h A s B X₀ W Q E R I fun f h' tk q => c f h' tk (by obtain ⟨e, W', I'⟩ := q; exact ⟨e, W', I'.less hl⟩)

theorem exs_return {e : Expr} {pos : Pos} {P : HV} (he : Ev prog w K env r ρ e P) : ExS prog w K env r ρ (.Return (some e) pos) (.ret P) := by
  intro A s B X₀ W Q E R I c
  refine wpAny_Return_some (he A s _ _ E R I.subK I.sat fun v h' tk k pv => c _ h' tk ⟨v, rfl, I.sub.keeps k, P.refr (fun b q => .inl (.inl q)) pv⟩)

theorem exs_if {t : Expr} {a b : List Stmt} {pos : Pos} {c : Bool} {O : Out} (ht : Tst prog w K env r ρ t c) (ha : c = true → Ex prog w K env r ρ a O) (hb : c = false → Ex prog w K env r ρ b O) : ExS prog w K env r ρ (.If t a b pos) O := by
  intro A s B X₀ W Q E R I cc
  refine wpAny_If (ht A s _ _ E R I.subK I.sat fun h' tk k => ?_)
  cases c with
  | true => exact ha rfl A _ B X₀ W Q E R (I.keeps k) cc
  | false => exact hb rfl A _ B X₀ W Q E R (I.keeps k) cc

theorem exs_assign {x : Str} {px pos : Pos} {e : Expr} {P : HV} (C : CanStore env x) (he : Ev prog w K env r ρ e P) (hs : swapsWith e (some (.Name x px)) pos.line env = pure false := by rfl) :
    ExS prog w K env r ρ (.Assign [.Name x px] e pos) (.next ((x, .imm P) :: ρ)) := by
  intro A s B X₀ W Q E R I c
  refine wpAny_Assign_Name (he A s _ _ E R I.subK I.sat fun v h' tk k pv => ?_) hs
  exact bind_imm (I.keeps k) C pv fun h'' tk' I' _ => c .next h'' tk' ⟨rfl, W, I'⟩

/-- values that lie outside the heap -/
noncomputable def HV.flat (P : HV) : Prop := ∀ X X' h h' v, P.p X h v → P.p X' h' v
theorem flat_int {i : Int} : (TInt i).flat := fun _ _ _ _ _ h => h
theorem satEmpty {h : Heap} (F : ∃ m cm, Fm env h m cm) : Sat env [] (fun b => (h.get? b).isSome = true) h :=
  let ⟨m, cm, F⟩ := F; ⟨fun _ q => q, m, cm, F, fun x e hx => by cases hx⟩

theorem exs_new_list {x : Str} {px pos : Pos} {e : Expr} {Ps : List HV} (C : CanStore env x) (he : Ev prog w K env r [] e (TList Ps)) (hf : ∀ P ∈ Ps, P.flat) (hs : swapsWith e (some (.Name x px)) pos.line env = pure false := by rfl) :
    ExS prog w K env r ρ (.Assign [.Name x px] e pos) (.next ((x, .ownS "list" Ps) :: ρ)) := by
  intro A s B X₀ W Q E R I c
  have ⟨m, cm, F, V, O⟩ := I.body
  refine wpAny_Assign_Name (he A s _ _ E R I.subK (satEmpty ⟨m, cm, F⟩) ?_) hs
  rintro v h' tk k ⟨⟨a, rfl, hX⟩, a', vs, n, e', ho, hi⟩
  cases e'
  have hnew : s.heap.get? a = none := by
    cases q : s.heap.get? a with
    | none => rfl
    | some o => exact absurd (liveAt q) hX
  refine bind_own (e := .ownS "list" Ps) I C k hnew (liveAt ho) rfl ⟨a, vs, n, rfl, ho, hi.imp' fun P hP u hu => hf P hP _ _ _ _ _ hu⟩ fun h'' tk' I' => c .next h'' tk' ⟨rfl, _, I'⟩
theorem exs_new_dict {κ : Type} [DecidableEq κ] (knd : KeyKind prog w κ) {x : Str} {px pos dpos : Pos} (kf : KF K gl) (C : CanStore env x) (hs : swapsWith (.Dict [] [] dpos) (some (.Name x px)) pos.line env = pure false := by rfl) :
    ExS prog w K env r ρ (.Assign [.Name x px] (.Dict [] [] dpos) pos) (.next ((x, .ownD knd ([] : List (κ × HV))) :: ρ)) := by
  intro A s B X₀ W Q E R I c
  have ⟨m, cm, F, V, O⟩ := I.body
  refine wpAny_Assign_Name (ev_dict0 (knd := knd) kf A s _ _ E R I.subK (satEmpty ⟨m, cm, F⟩) ?_) hs
  rintro v h' tk k ⟨⟨a, rfl, hX⟩, a', us, e', hsy, ho, hi⟩
  cases e'
  have hnew : s.heap.get? a = none := by
    cases q : s.heap.get? a with
    | none => rfl
    | some o => exact absurd (liveAt q) hX
  obtain rfl : us = [] := by cases us with | nil => rfl | cons _ _ => exact hi.elim
  have ⟨o, _, _, hg, _⟩ := ho
  refine bind_own (e := .ownD knd []) I C k hnew (liveAt hg) rfl ⟨a, [], rfl, hsy, ho, trivial⟩ fun h'' tk' I' => c .next h'' tk' ⟨rfl, _, I'⟩

/-- an own container becomes a value -/
noncomputable def Ent.still : Ent → HV
  | .imm P => P
  | .ownS cls Ps => TSeq cls Ps
  | @Ent.ownD _ _ _ _ knd kvs => TDict knd kvs

theorem Inv.freeze {B : PM} {X₀ W : XS} {h : Heap} {x : Str} {e : Ent} (I : Inv env K B X₀ W ρ h) (hx : ρ.lookup x = some e) (ho : e.isOwn = true) : ∃ W', Inv env K B X₀ W' ((x, .imm e.still) :: ρ) h := by
  obtain ⟨m, cm, F, V, O⟩ := I.body
  obtain ⟨a, hva, hWa, hal, hac⟩ := O.inW x e hx ho
  have mono : ∀ b, (X₀ b ∨ (W b ∧ b ≠ a)) → (X₀ b ∨ W b) ∨ h.get? b = none := fun b q => .inl (q.elim .inl fun q => .inr q.1)
  refine ⟨fun b => W b ∧ b ≠ a, I.kb, I.sub, fun b q => ⟨(I.dom b q).1, fun z => (I.dom b q).2 z.1⟩, fun b q => I.off b q.1, fun b q => I.live b q.1, ⟨I.wl, Ne.symm hal⟩, fun n c hc hk => ⟨I.wc n c hc hk, hac n c hc⟩, I.apart, I.coff, m, cm, F, fun y e' hy => ?_, ⟨fun y e' hy ho' => ?_, fun y z ey ez b hne hy hz hoy hoz hv => ?_⟩⟩
  · rw [List.lookup_cons] at hy
    cases hb : y == x with
    | true =>
      rw [hb] at hy; cases hy
      rw [eq_of_beq hb]
      obtain ⟨v, hv, hp⟩ := V x e hx
      rw [hva] at hv; cases hv
      refine ⟨.ref a, hva, ?_⟩
      have hna : ¬ (X₀ a ∨ (W a ∧ a ≠ a)) := by
        rintro (q | q)
        · exact (I.dom a q).2 hWa
        · exact q.2 rfl
      have hp' : e.w.p _ h (.ref a) := Ent.refr hp mono
      cases e with
      | imm P => cases ho
      | ownS cls Ps => exact ⟨⟨a, rfl, hna⟩, hp'⟩
      | ownD knd kvs => exact ⟨⟨a, rfl, hna⟩, hp'⟩
    | false =>
      rw [hb] at hy
      obtain ⟨v, hv, hp⟩ := V y e' hy
      exact ⟨v, hv, Ent.refr hp mono⟩
  · rw [List.lookup_cons] at hy
    cases hb : y == x with
    | true => rw [hb] at hy; cases hy; cases ho'
    | false =>
      rw [hb] at hy
      have hne : y ≠ x := by simpa using hb
      obtain ⟨a', q1, q2, q3, q4⟩ := O.inW y e' hy ho'
      exact ⟨a', q1, ⟨q2, fun q => O.sep x y e e' a (Ne.symm hne) hx hy ho ho' hva (q ▸ q1)⟩, q3, q4⟩
  · rw [List.lookup_cons] at hy hz
    cases hb : y == x with
    | true => rw [hb] at hy; cases hy; cases hoy
    | false =>
      cases hb2 : z == x with
      | true => rw [hb2] at hz; cases hz; cases hoz
      | false =>
        rw [hb] at hy; rw [hb2] at hz
        exact O.sep y z ey ez b hne hy hz hoy hoz hv
theorem ex_freeze {x : Str} {e : Ent} {ss : List Stmt} {O : Out} (hx : ρ.lookup x = some e) (h : Ex prog w K env r ((x, .imm e.still) :: ρ) ss O) (ho : e.isOwn = true := by rfl) : Ex prog w K env r ρ ss O :=
  fun A s B X₀ W Q E R I c => let ⟨W', I'⟩ := I.freeze hx ho; h A s B X₀ W' Q E R I' c

/-- the place of an own container -/
theorem own_var {A : Around} {s : Shared} {B : PM} {X₀ W : XS} {x : Str} {px : Pos} {e : Ent} {Q : Value → Shared → Prop} {E : Value → Shared → Prop} (I : Inv env K B X₀ W ρ s.heap) (hk : env.scope.kind = .function) (hx : ρ.lookup x = some e) (ho : e.isOwn = true)
    (c : ∀ a, W a → (∀ h', (∀ b o, s.heap.get? b = some o → h'.get? b = some o) → ∀ m cm, Fm env h' m cm → valOf env m cm x = some (.ref a)) → e.w.p (fun b => X₀ b ∨ W b) s.heap (.ref a) → Q (.ref a) s)
    (hd : (x == ("__debug__" : Str)) = false := by decide) (hn : (x == ("__classdict__" : Str)) = false := by decide) :
    wpAny (model prog w) A (eval (.Name x px) env) Q E s := by
  obtain ⟨m, cm, F, V, O⟩ := I.body
  obtain ⟨a, hva, hWa, _, _⟩ := O.inW x e hx ho
  obtain ⟨v, hv, hp⟩ := V x e hx
  rw [hva] at hv; cases hv
  have fin : Q (.ref a) s := c a hWa (fun h' k m' cm' F' => by rw [Fm.uniq F' (F.keeps k)]; exact hva) hp
  refine wpAny_Name ?_ hd
  have hv := hva
  unfold valOf at hv
  split at hv
  · rename_i hl; exact wpAny_loadName_local hk hl F.ns hv fin
  · rename_i hl
    obtain ⟨cc, hc, hv⟩ := Option.bind_eq_some_iff.mp hv
    exact wpAny_loadName_cell hk hl hc (hv ▸ F.cell x cc hc) fin
  · rename_i hl
    obtain ⟨cc, hc, hv⟩ := Option.bind_eq_some_iff.mp hv
    exact wpAny_loadName_free hk hl hc (hv ▸ F.cell x cc hc) fin hn
  · cases hv

/-- x.append(e) -/
theorem exs_append {x : Str} {px apos pos spos : Pos} {e : Expr} {Ps : List HV} {P : HV} (hk : env.scope.kind = .function) (hx : ρ.lookup x = some (.ownS "list" Ps)) (he : Ev prog w K env r ρ e P) (hsz : Ps.length ≤ sizeLine)
    (hst : starEach [e] env = [(false, eval e env)] := by rfl) (hi : interactive env = false := by rfl)
    (hd : (x == ("__debug__" : Str)) = false := by decide) (hn : (x == ("__classdict__" : Str)) = false := by decide) (hline : (apos.endLine == pos.line) = true := by rfl) :
    ExS prog w K env r ρ (.Expr (.Call (.Attribute (.Name x px) "append" apos) [e] [] pos) spos) (.next ((x, .ownS "list" (Ps ++ [P])) :: ρ)) := by
  intro A s B X₀ W Q E R I c
  refine wpAny_Expr (wpAny_Call_method rfl (by rw [hst]; rfl) hline F.plainAttrs_list F.slot_list_append F.type_list_append (own_var I hk hx rfl (fun a hWa hva pa => ?_) hd hn)) hi
  obtain ⟨a', vs, n, e1, ho, hit⟩ := pa
  cases e1
  refine ⟨⟨_, ho, rfl⟩, fun b e => by cases e; exact ⟨_, ho, rfl⟩, ?_⟩
  have hargs := evl_cons (pos := pos) he evl_nil hst
  refine Calls.callWith_builtin hargs.plain (evalArgs_trees hargs.plain (hargs.run A s _ _ _ R I.subK I.sat fun us h₁ t₁ k₁ pv => ?_))
  obtain ⟨u, rfl, pu⟩ := vs1 pv
  have hsz' : vs.size ≤ sizeLine := by have := hit.length; simp at this; lia
  refine wpAny_list_append_plain (hsz := hsz') (⟨n, k₁ _ _ ho⟩ : h₁.PlainList a vs) fun h₂ hl₂ hs₂ => ?_
  obtain ⟨n₂, ho₂⟩ := hl₂
  have kX : ∀ b o, ¬ (X₀ b ∨ W b) → h₁.get? b = some o → h₂.get? b = some o := fun b o hb e => hs₂.extBut b o (fun q => hb (.inr (q ▸ hWa))) e
  refine c .next h₂ t₁ ⟨rfl, W, (I.keeps k₁).poke hx rfl rfl (hva h₁ k₁) hs₂ ⟨a, _, n₂, rfl, ho₂, ?_⟩ (liveAt ho₂)⟩
  rw [Array.toList_push]
  exact All2.append (hit.imp fun P u hu => P.frame kX (P.frame (fun b o _ q => k₁ b o q) hu)) ⟨P.frame kX pu, trivial⟩

/-- x[i] = e, a dict -/
theorem exs_put {κ : Type} [DecidableEq κ] {knd : KeyKind prog w κ} {x : Str} {px spos pos : Pos} {i e : Expr} {kvs : List (κ × HV)} {P : HV} {Pk : WV} {k : κ} (hk : env.scope.kind = .function) (hx : ρ.lookup x = some (.ownD knd kvs)) (he : Ev prog w K env r ρ e P)
    (hi : Ev prog w K env r ρ i Pk) (hkey : IsKey knd Pk k) (hsz : kvs.length ≤ sizeLine) (hs : swapsWith e (some (.Subscript (.Name x px) i spos)) pos.line env = pure false := by rfl)
    (hd : (x == ("__debug__" : Str)) = false := by decide) (hn : (x == ("__classdict__" : Str)) = false := by decide) :
    ExS prog w K env r ρ (.Assign [.Subscript (.Name x px) i spos] e pos) (.next ((x, .ownD knd (dput kvs k P)) :: ρ)) := by
  intro A s B X₀ W Q E R I c
  refine wpAny_Assign_Subscript (he A s _ _ E R I.subK I.sat fun v h₁ t₁ k₁ pv => ?_) hs
  have I₁ := I.keeps k₁
  refine own_var (s := { s with heap := h₁, toks := t₁ }) I₁ hk hx rfl (fun a hWa hva pa => ?_) hd hn
  refine hi A _ _ _ E R I₁.subK I₁.sat fun iv h₂ t₂ k₂ pi => ?_
  obtain ⟨a', us, e1, hsy, hdo, hit⟩ := pa
  cases e1
  refine wpAny_setItem_pairs (k := k) (hkey _ _ _ pi) (dictOf_at hdo (k₂ _)) (fun h₃ hd₃ hs₃ => ?_) (by have := hit.length; lia)
  have kX : ∀ b o, ¬ (X₀ b ∨ W b) → h₂.get? b = some o → h₃.get? b = some o := fun b o hb e => hs₃.extBut b o (fun q => hb (.inr (q ▸ hWa))) e
  have ⟨o, _, _, hg, _⟩ := hd₃
  refine c .next h₃ _ ⟨rfl, W, (I₁.keeps k₂).poke hx rfl rfl (hva h₂ k₂) hs₃ ⟨a, _, rfl, hsy, hd₃, ?_⟩ (liveAt hg)⟩
  rw [stored_dput]
  exact rel_put (R := fun (P : HV) v => P.p (fun b => X₀ b ∨ W b) h₃ v) (P.frame kX (P.frame (fun b o _ q => k₂ b o q) pv)) k (hit.imp fun x y hu => ⟨hu.1, x.2.frame kX (x.2.frame (fun b o _ q => k₂ b o q) hu.2)⟩)

theorem ld_var {A : Around} {s : Shared} {X : XS} {x : Str} {e : Ent} {Q : Value → Shared → Prop} {E : Value → Shared → Prop} (hk : env.scope.kind = .function) (hx : ρ.lookup x = some e) (S : Sat env ρ X s.heap)
    (c : ∀ v, e.w.p X s.heap v → Q v s) (hn : (x == ("__classdict__" : Str)) = false := by decide) : wpAny (model prog w) A (loadName env x) Q E s := by
  obtain ⟨hX, m, cm, F, V⟩ := S
  obtain ⟨v, hv, hp⟩ := V x e hx
  have fin : Q v s := c v hp
  unfold valOf at hv
  split at hv
  · rename_i hl; exact wpAny_loadName_local hk hl F.ns hv fin
  · rename_i hl
    obtain ⟨cc, hc, hv⟩ := Option.bind_eq_some_iff.mp hv
    exact wpAny_loadName_cell hk hl hc (hv ▸ F.cell x cc hc) fin
  · rename_i hl
    obtain ⟨cc, hc, hv⟩ := Option.bind_eq_some_iff.mp hv
    exact wpAny_loadName_free hk hl hc (hv ▸ F.cell x cc hc) fin hn
  · cases hv
/-- x += e -/
theorem exs_aug {x : Str} {px pos : Pos} {e : Expr} {op : Operator} {P P₂ P₃ : HV} (C : CanStore env x) (hx : ρ.lookup x = some (.imm P)) (he : Ev prog w K env r ρ e P₂)
    (h : ∀ X hh va vb, P.p X hh va → P₂.p X hh vb → Vl prog w K r X hh (inplaceOp op va vb) (fun v h' => P₃.p X h' v))
    (hd : (x == ("__debug__" : Str)) = false := by decide) (hn : (x == ("__classdict__" : Str)) = false := by decide) :
    ExS prog w K env r ρ (.AugAssign (.Name x px) op e pos) (.next ((x, .imm P₃) :: ρ)) := by
  intro A s B X₀ W Q E R I c
  refine wpAny_AugAssign_Name (ld_var C.kind hx I.sat (fun old po => ?_) hn)
  refine he A _ _ _ E R I.subK I.sat fun v h₂ t₂ k₂ pv => ?_
  have I₂ := I.keeps k₂
  refine h _ h₂ old v (P.frame (fun b o _ q => k₂ b o q) po) pv A _ _ E R rfl I₂.subK I₂.sat.1 fun u h₃ t₃ k₃ pu => ?_
  exact bind_imm (I₂.keeps k₃) C pu fun h' tk I' _ => c .next h' tk ⟨rfl, W, I'⟩
theorem vl_iadd {X : XS} {hh : Heap} {va vb : Value} {a b : Int} (ha : ∃ t, va = .int a t) (hb : ∃ t, vb = .int b t) : Vl prog w K r X hh (inplaceOp .Add va vb) (fun v _ => ∃ t, v = .int (a + b) t) := by
  obtain ⟨t, rfl⟩ := ha; obtain ⟨u, rfl⟩ := hb
  exact fun _ s _ _ _ _ _ _ c => PyProof.Rows.iadd_int (c _ s.heap _ (fun _ _ q => q) ⟨_, rfl⟩)
end
end Mine

namespace Mine
open PySem PySem.Calls

open Classical in
noncomputable def Bmax (W : XS) (h : Heap) : PM := fun b => if W b then none else h.get? b
theorem bmax_off {W : XS} {h : Heap} {b : Addr} (q : W b) : Bmax W h b = none := by unfold Bmax; rw [if_pos q]
theorem bmax_some {W : XS} {h : Heap} {b : Addr} {o : Obj} (q : ¬ W b) (e : h.get? b = some o) : Bmax W h b = some o := by unfold Bmax; rw [if_neg q, e]
theorem bmax_of {W : XS} {h : Heap} {b : Addr} {o : Obj} (e : Bmax W h b = some o) : ¬ W b ∧ h.get? b = some o := by
  unfold Bmax at e; split at e
  · cases e
  · rename_i q; exact ⟨q, e⟩
theorem bmax_none {W : XS} {h : Heap} {b : Addr} (e : Bmax W h b = none) : W b ∨ h.get? b = none := by
  unfold Bmax at e; split at e
  · rename_i q; exact .inl q
  · exact .inr e

section
variable {env : Env} {K B : PM} {X₀ W : XS} {ρ : Ctx} {h h' : Heap}
theorem Inv.max (I : Inv env K B X₀ W ρ h) : Inv env K (Bmax W h) X₀ W ρ h := by
  have nw : ∀ a o, B a = some o → ¬ W a := fun a o e q => by rw [I.off a q] at e; cases e
  exact ⟨fun a o e => bmax_some (nw a o (I.kb a o e)) (I.subK a o e), fun a o e => (bmax_of e).2, I.dom, fun b q => bmax_off q, I.live, I.wl, I.wc, I.apart, I.coff, I.body⟩
theorem Inv.inMax (I : Inv env K B X₀ W ρ h) {a : Addr} {o : Obj} (e : B a = some o) : Bmax W h a = some o :=
  bmax_some (fun q => by rw [I.off a q] at e; cases e) (I.sub a o e)
/-- what is left of the protected ones when Z is open too -/
noncomputable def Bz (Z : List Addr) (W : XS) (h : Heap) : PM := Bmax (fun b => W b ∨ b ∈ Z) h
/-- only excluded objects moved -/
theorem Inv.move {B' : PM} {V : XS} (I : Inv env K B X₀ W ρ h) (k : ∀ b o, ¬ V b → h.get? b = some o → h'.get? b = some o) (hX : ∀ b, V b → X₀ b) (hc : ∀ n c, env.cells.lookup n = some c → ¬ V c) (hl : ∀ b, V b → (h'.get? b).isSome = true)
    (kb : ∀ a o, K a = some o → B' a = some o) (sub : Sub B' h') (off : ∀ b, W b → B' b = none) : Inv env K B' X₀ W ρ h' := by
  obtain ⟨m, cm, F, V', O⟩ := I.body
  have wW : ∀ b, W b → ¬ V b := fun b q hb => (I.dom b (hX b hb)).2 q
  have kX : ∀ b o, ¬ (X₀ b ∨ W b) → h.get? b = some o → h'.get? b = some o := fun b o hb e => k b o (fun q => hb (.inl (hX b q))) e
  refine ⟨kb, sub, fun b q => ⟨?_, (I.dom b q).2⟩, off, fun b q => ?_, I.wl, I.wc, I.apart, I.coff, m, cm, ⟨F.ns.at' fun o e => k _ o (wW _ I.wl) e, fun n c hn => ?_⟩, fun x e hx => ?_, O⟩
  · by_cases z : V b
    · exact hl b z
    · obtain ⟨o, ho⟩ := Option.isSome_iff_exists.mp (I.dom b q).1
      exact liveAt (k b o z ho)
  · obtain ⟨o, ho⟩ := Option.isSome_iff_exists.mp (I.live b q)
    exact liveAt (k b o (wW b q) ho)
  · obtain ⟨o, q1, q2⟩ := F.cell n c hn
    exact ⟨o, k c o (hc n c hn) q1, q2⟩
  · obtain ⟨v, hv, hp⟩ := V' x e hx
    refine ⟨v, hv, ?_⟩
    cases hown : e.isOwn with
    | false =>
      cases e with
      | imm R => exact R.frame kX hp
      | ownS _ _ => cases hown
      | ownD _ _ => cases hown
    | true =>
      obtain ⟨a, ha, hWa, _⟩ := O.inW x e hx hown
      rw [hv] at ha; cases ha
      exact own_keep hown hp (fun o q => k a o (wW a hWa) q) kX
/-- excluded objects may go -/
theorem Inv.gone {B₁ : PM} {wr : List Addr} (J : Inv env K B₁ (fun b => X₀ b ∨ b ∈ wr) W ρ h) (k : ∀ b o, b ∉ wr → h.get? b = some o → h'.get? b = some o) (kb : ∀ a o, K a = some o → B a = some o) (sub : Sub B h')
    (hX : ∀ b, X₀ b → b ∉ wr) (off : ∀ b, W b → B b = none) (hc : ∀ n c, env.cells.lookup n = some c → c ∉ wr) : Inv env K B X₀ W ρ h' := by
  obtain ⟨m, cm, F, V, O⟩ := J.body
  have wW : ∀ b, W b → b ∉ wr := fun b q hb => (J.dom b (.inr hb)).2 q
  have kX : ∀ b o, ¬ ((X₀ b ∨ b ∈ wr) ∨ W b) → h.get? b = some o → h'.get? b = some o := fun b o hb e => k b o (fun q => hb (.inl (.inr q))) e
  refine ⟨kb, sub, fun b q => ⟨?_, (J.dom b (.inl q)).2⟩, off, fun b q => ?_, J.wl, J.wc, J.apart, J.coff, m, cm, ⟨F.ns.at' fun o e => k _ o (wW _ J.wl) e, fun n c hn => ?_⟩, fun x e hx => ?_, O⟩
  · obtain ⟨o, ho⟩ := Option.isSome_iff_exists.mp (J.dom b (.inl q)).1
    exact liveAt (k b o (hX b q) ho)
  · obtain ⟨o, ho⟩ := Option.isSome_iff_exists.mp (J.live b q)
    exact liveAt (k b o (wW b q) ho)
  · obtain ⟨o, q1, q2⟩ := F.cell n c hn
    exact ⟨o, k c o (hc n c hn) q1, q2⟩
  · obtain ⟨v, hv, hp⟩ := V x e hx
    refine ⟨v, hv, Ent.refr (X := fun b => (X₀ b ∨ b ∈ wr) ∨ W b) ?_ fun b q => .inl (q.elim (fun q => .inl (.inl q)) .inr)⟩
    cases hown : e.isOwn with
    | false =>
      cases e with
      | imm R => exact R.frame kX hp
      | ownS _ _ => cases hown
      | ownD _ _ => cases hown
    | true =>
      obtain ⟨a, ha, hWa, _⟩ := O.inW x e hx hown
      rw [hv] at ha; cases ha
      exact own_keep hown hp (fun o q => k a o (wW a hWa) q) kX
end

section
variable {prog : Program} {w : World} {K : PM} {gl : List (Str × Value)} {env : Env} {r : Nat} {ρ : Ctx}

noncomputable def SlotKeep (Z : List Addr) (h h' : Heap) : Prop := ∀ L ∈ Z, ∀ o, h.get? L = some o → ∃ sl, h'.get? L = some { o with slots := sl }
theorem SlotKeep.of_keep {Z : List Addr} {h h' : Heap} (k : ∀ L ∈ Z, ∀ o, h.get? L = some o → h'.get? L = some o) : SlotKeep Z h h' := fun L hL o e => ⟨o.slots, k L hL o e⟩
theorem SlotKeep.trans {Z : List Addr} {h₁ h₂ h₃ : Heap} (x : SlotKeep Z h₁ h₂) (y : SlotKeep Z h₂ h₃) : SlotKeep Z h₁ h₃ := fun L hL o e =>
  let ⟨_, e₁⟩ := x L hL o e; let ⟨sl, e₂⟩ := y L hL _ e₁; ⟨sl, e₂⟩
theorem SlotKeep.live {Z : List Addr} {h h' : Heap} (x : SlotKeep Z h h') {L : Addr} (hL : L ∈ Z) (q : (h.get? L).isSome = true) : (h'.get? L).isSome = true := by
  obtain ⟨o, ho⟩ := Option.isSome_iff_exists.mp q
  obtain ⟨sl, e⟩ := x L hL o ho
  exact liveAt e

/-- statements that may set the slots of the frames Z -/
noncomputable def ExG (prog : Program) (w : World) (K : PM) (Z : List Addr) (Φ : Around → Heap → Prop) (env : Env) (r : Nat) (ρ : Ctx) (ss : List Stmt) (O : Out) : Prop :=
  ∀ (A : Around) (s : Shared) (B : PM) (X₀ W : XS) (Q : Flow → Shared → Prop) (E : Value → Shared → Prop), Room A r → Φ A s.heap → Inv env K B X₀ W ρ s.heap → (∀ L ∈ Z, X₀ L ∧ B L = none) →
    (∀ f h' tk, Ends env K B X₀ O f h' → SlotKeep Z s.heap h' → Q f { s with heap := h', toks := tk }) → wpAny (model prog w) A (execs ss env) Q E s
noncomputable def ExSG (prog : Program) (w : World) (K : PM) (Z : List Addr) (Φ : Around → Heap → Prop) (env : Env) (r : Nat) (ρ : Ctx) (st : Stmt) (O : Out) : Prop :=
  ∀ (A : Around) (s : Shared) (B : PM) (X₀ W : XS) (Q : Flow → Shared → Prop) (E : Value → Shared → Prop), Room A r → Φ A s.heap → Inv env K B X₀ W ρ s.heap → (∀ L ∈ Z, X₀ L ∧ B L = none) →
    (∀ f h' tk, Ends env K B X₀ O f h' → SlotKeep Z s.heap h' → Q f { s with heap := h', toks := tk }) → wpAny (model prog w) A (exec st env) Q E s

section
variable {Z : List Addr} {Φ : Around → Heap → Prop}
theorem Ends.fewer {B B' : PM} {X₀ : XS} {O : Out} {f : Flow} {h : Heap} (x : Ends env K B X₀ O f h) (kb : ∀ a o, K a = some o → B' a = some o) (hs : ∀ a o, B' a = some o → B a = some o) : Ends env K B' X₀ O f h := by
  cases O with
  | next ρ' => obtain ⟨e, W', I'⟩ := x; exact ⟨e, W', I'.fewer kb hs⟩
  | ret P => obtain ⟨v, e, hsub, hp⟩ := x; exact ⟨v, e, fun a o q => hsub a o (hs a o q), hp⟩
theorem exg_of {ss : List Stmt} {O : Out} (h : Ex prog w K env r ρ ss O) : ExG prog w K Z Φ env r ρ ss O :=
  fun A s B X₀ W Q E R _ I hZ c => h A s (Bmax W s.heap) X₀ W Q E R I.max fun f h' tk En => c f h' tk (En.fewer I.kb fun a o e => I.inMax e) (SlotKeep.of_keep fun L hL o e => by
    have hW := (I.dom L (hZ L hL).1).2
    cases O with
    | next ρ' => obtain ⟨_, W', I'⟩ := En; exact I'.sub L o (bmax_some hW e)
    | ret P => obtain ⟨v, _, hsub, _⟩ := En; exact hsub L o (bmax_some hW e))
theorem exsg_of {st : Stmt} {O : Out} (h : ExS prog w K env r ρ st O) : ExSG prog w K Z Φ env r ρ st O :=
  fun A s B X₀ W Q E R _ I hZ c => h A s (Bmax W s.heap) X₀ W Q E R I.max fun f h' tk En => c f h' tk (En.fewer I.kb fun a o e => I.inMax e) (SlotKeep.of_keep fun L hL o e => by
    have hW := (I.dom L (hZ L hL).1).2
    cases O with
    | next ρ' => obtain ⟨_, W', I'⟩ := En; exact I'.sub L o (bmax_some hW e)
    | ret P => obtain ⟨v, _, hsub, _⟩ := En; exact hsub L o (bmax_some hW e))
theorem exs_ofG {st : Stmt} {O : Out} (h : ExSG prog w K [] (fun _ _ => True) env r ρ st O) : ExS prog w K env r ρ st O :=
  fun A s B X₀ W Q E R I c => h A s B X₀ W Q E R trivial I (fun L hL => by cases hL) fun f h' tk En _ => c f h' tk En
theorem exg_cons {st : Stmt} {ss : List Stmt} {ρ' : Ctx} {O : Out} (hΦ : ∀ A h h', Φ A h → SlotKeep Z h h' → Φ A h') (h : ExSG prog w K Z Φ env r ρ st (.next ρ')) (h2 : ExG prog w K Z Φ env r ρ' ss O) : ExG prog w K Z Φ env r ρ (st :: ss) O := by
  intro A s B X₀ W Q E R φ I hZ c
  refine wpAny_execs_cons (h A s B X₀ W _ E R φ I hZ ?_)
  rintro f h' tk ⟨rfl, W', I'⟩ sk
  exact h2 A _ B X₀ W' Q E R (hΦ _ _ _ φ sk) I' hZ fun f h'' tk' En sk' => c f h'' tk' En (sk.trans sk')
theorem exg_less {ss : List Stmt} {ρ' : Ctx} {O : Out} (h : ExG prog w K Z Φ env r ρ' ss O) (hl : ∀ x e, ρ'.lookup x = some e → ρ.lookup x = some e) : ExG prog w K Z Φ env r ρ ss O :=
  fun A s B X₀ W Q E R φ I hZ c => h A s B X₀ W Q E R φ (I.less hl) hZ c
theorem exg_freeze {x : Str} {e : Ent} {ss : List Stmt} {O : Out} (hx : ρ.lookup x = some e) (h : ExG prog w K Z Φ env r ((x, .imm e.still) :: ρ) ss O) (ho : e.isOwn = true := by rfl) : ExG prog w K Z Φ env r ρ ss O :=
  fun A s B X₀ W Q E R φ I hZ c => let ⟨W', I'⟩ := I.freeze hx ho; h A s B X₀ W' Q E R φ I' hZ c
theorem exsg_if {t : Expr} {a b : List Stmt} {pos : Pos} {c : Bool} {O : Out} (hΦ : ∀ A h h', Φ A h → SlotKeep Z h h' → Φ A h') (ht : Tst prog w K env r ρ t c) (ha : c = true → ExG prog w K Z Φ env r ρ a O) (hb : c = false → ExG prog w K Z Φ env r ρ b O) :
    ExSG prog w K Z Φ env r ρ (.If t a b pos) O := by
  intro A s B X₀ W Q E R φ I hZ cc
  refine wpAny_If (ht A s _ _ E R I.subK I.sat fun h' tk k => ?_)
  have sk : SlotKeep Z s.heap h' := SlotKeep.of_keep fun L _ o e => k L o e
  cases c with
  | true => exact ha rfl A _ B X₀ W Q E R (hΦ _ _ _ φ sk) (I.keeps k) hZ fun f h'' tk' En sk' => cc f h'' tk' En (sk.trans sk')
  | false => exact hb rfl A _ B X₀ W Q E R (hΦ _ _ _ φ sk) (I.keeps k) hZ fun f h'' tk' En sk' => cc f h'' tk' En (sk.trans sk')

theorem bz_some {h : Heap} {b : Addr} {o : Obj} (q : ¬ W b) (qz : b ∉ Z) (e : h.get? b = some o) : Bz Z W h b = some o := bmax_some (fun z => z.elim q qz) e
theorem Inv.bz {B : PM} {X₀ W : XS} {h : Heap} (I : Inv env K B X₀ W ρ h) (hZ : ∀ L ∈ Z, B L = none) : Inv env K (Bz Z W h) X₀ W ρ h := by
  have nw : ∀ a o, B a = some o → ¬ W a := fun a o e q => by rw [I.off a q] at e; cases e
  have nz : ∀ a o, B a = some o → a ∉ Z := fun a o e q => by rw [hZ a q] at e; cases e
  exact ⟨fun a o e => bz_some (nw a o (I.kb a o e)) (nz a o (I.kb a o e)) (I.subK a o e), fun a o e => (bmax_of e).2, I.dom, fun b q => bmax_off (.inl q), I.live, I.wl, I.wc, I.apart, I.coff, I.body⟩

/-- the heart of a loop -/
theorem for_core {target : Expr} {body : List Stmt} {A : Around} {s s₂ : Shared} {B : PM} {X₀ W₀ : XS} {I : Addr} {fp wr : List Addr} {n stop : Nat} {St : Nat → Heap → Prop} {ρs bnd : Nat → Ctx} {O : Out} {Q : Flow → Shared → Prop} {EE : Value → Shared → Prop} (R : Room A r)
    (φ₀ : Φ A s.heap) (hΦ : ∀ A h h', Φ A h → SlotKeep Z h h' → Φ A h') (hZ : ∀ L ∈ Z, X₀ L ∧ B L = none)
    (I₀ : Inv env K B X₀ W₀ (ρs 0) s.heap) (k₀ : ∀ b o, s.heap.get? b = some o → s₂.heap.get? b = some o) (hs₂ : ∃ h tk, s₂ = { s with heap := h, toks := tk })
    (hsub : ∀ b ∈ wr, b ∈ fp) (hframe : ∀ i h h', St i h → (∀ b ∈ fp, ∀ o, h.get? b = some o → h'.get? b = some o) → St i h') (hst : St 0 s₂.heap) (live : ∀ i h' b, St i h' → b ∈ wr → (h'.get? b).isSome = true)
    (base : ∀ b ∈ fp, (s₂.heap.get? b).isSome = true) (off : ∀ b ∈ fp, ¬ (X₀ b ∨ W₀ b)) (new : ∀ b ∈ wr, s.heap.get? b = none) (hstop : stop ≤ n)
    (step : ∀ i H W tk (Q' : Option Value → Shared → Prop) (E' : Value → Shared → Prop), i < n → St i H → Inv env K (Bz Z W H) (fun b => X₀ b ∨ b ∈ wr) W (ρs i) H → (∀ b, W b → W₀ b ∨ s₂.heap.get? b = none) →
      (∀ b o, s₂.heap.get? b = some o → ¬ (X₀ b ∨ W₀ b) → b ∉ wr → H.get? b = some o) →
      (∀ v s₁, wpAny (model prog w) A (letOwnedTupleGo target (.ref I) v) (fun _ s₁' => wpAny (model prog w) A (assign target env v) (fun _ s₃ => ∃ H3 tk3, s₃ = { s₂ with heap := H3, toks := tk3 } ∧ St (i + 1) H3 ∧
        (∀ b o, ¬ W b → b ∉ wr → H.get? b = some o → H3.get? b = some o) ∧ Inv env K (Bz Z W H3) (fun b => X₀ b ∨ b ∈ wr) W (bnd i) H3) E' s₁') E' s₁ → Q' (some v) s₁) →
      wpAny (model prog w) A (pyNext (.ref I)) Q' E' { s₂ with heap := H, toks := tk })
    (done : ∀ (s' : Shared) (Q' : Option Value → Shared → Prop) (E' : Value → Shared → Prop), St n s'.heap → (∀ h' tk, (∀ b o, b ∉ wr → s'.heap.get? b = some o → h'.get? b = some o) → Q' none { s' with heap := h', toks := tk }) → wpAny (model prog w) A (pyNext (.ref I)) Q' E' s')
    (hbody : ∀ i, i < stop → ExG prog w K Z Φ env r (bnd i) body (.next (ρs (i + 1))))
    (hend : (stop = n ∧ O = .next (ρs n)) ∨ (stop < n ∧ ∃ P, O = .ret P ∧ ExG prog w K Z Φ env r (bnd stop) body (.ret P)))
    (hQ : ∀ f h' tk, Ends env K B X₀ O f h' → SlotKeep Z s.heap h' → Q f { s with heap := h', toks := tk }) :
    codeAny (model prog w) A (.forLoop target (.ref I) body [] env) (fun r s' => match r with | .ok f => Q f s' | .error e => cameBackBy (model prog w) A env EE e s') s₂ := by
  obtain ⟨hh, tt, rfl⟩ := hs₂
  have k₀' : ∀ b o, s.heap.get? b = some o → hh.get? b = some o := k₀
  have cellsOff : ∀ n c, env.cells.lookup n = some c → c ∉ wr := fun n c hc hb => by
    obtain ⟨m, cm, F, _⟩ := I₀.body
    obtain ⟨o, q, _⟩ := F.cell n c hc
    rw [new c hb] at q; cases q
  have fpW : ∀ {W : XS}, (∀ b, W b → W₀ b ∨ hh.get? b = none) → ∀ b ∈ fp, ¬ W b := fun hd b hb q => by
    rcases hd b q with q | q
    · exact off b hb (.inr q)
    · have := base b hb; rw [show ({ s with heap := hh, toks := tt } : Shared).heap = hh from rfl, q] at this; cases this
  have nW₀ : ∀ a o, B a = some o → ¬ W₀ a := fun a o e q => by rw [I₀.off a q] at e; cases e
  have nZ₀ : ∀ a o, B a = some o → a ∉ Z := fun a o e q => by rw [(hZ a q).2] at e; cases e
  have wrB : ∀ a o, B a = some o → a ∉ wr := fun a o e q => by have := I₀.sub a o e; rw [new a q] at this; cases this
  have zLive : ∀ L ∈ Z, (s.heap.get? L).isSome = true := fun L hL => (I₀.dom L (hZ L hL).1).1
  have zWr : ∀ L ∈ Z, L ∉ wr := fun L hL q => by have := zLive L hL; rw [new L q] at this; cases this
  have zFp : ∀ L ∈ Z, L ∉ fp := fun L hL q => off L q (.inl (hZ L hL).1)
  refine codeAny_forLoop_any
    (fun k s' => ∃ H tk W i, s' = { s with heap := H, toks := tk } ∧ i ≤ stop ∧ k = n + 1 - i ∧ St i H ∧ Inv env K (Bz Z W H) (fun b => X₀ b ∨ b ∈ wr) W (ρs i) H ∧ (∀ b, W b → W₀ b ∨ hh.get? b = none) ∧
      (∀ b o, hh.get? b = some o → ¬ W₀ b → b ∉ wr → b ∉ Z → H.get? b = some o) ∧ SlotKeep Z s.heap H) ?_ (n + 1)
    ⟨hh, tt, W₀, 0, rfl, Nat.zero_le _, rfl, hst, ?_, fun _ q => .inl q, fun b o e _ _ _ => e, SlotKeep.of_keep fun L _ o e => k₀' L o e⟩
  · rintro k s' ⟨H, tk, W, i, rfl, hi, rfl, hSt, J, hd, hc, hsk⟩
    have cont : ∀ (fin : i < n), ExG prog w K Z Φ env r (bnd i) body (if i < stop then .next (ρs (i + 1)) else O) → (¬ i < stop → ∃ P, O = .ret P) →
        wpAny (model prog w) A (pyNext (.ref I)) (fun r s₁ => match r with
          | none => wpAny (model prog w) A (execs [] env) (fun f s₃ => (match (Except.ok f : Result) with | .ok f => Q f s₃ | .error e => cameBackBy (model prog w) A env EE e s₃)) (notedBy (model prog w) A env fun e s' => match (Except.error e : Result) with | .ok f => Q f s' | .error e => cameBackBy (model prog w) A env EE e s') s₁
          | some v => wpAny (model prog w) A (letOwnedTupleGo target (.ref I) v) (fun _ s₁' =>
            wpAny (model prog w) A (assign target env v) (fun _ s₂ => wpAny (model prog w) A (execs body env) (fun f s₃ => match f with
              | .next | .cont => ∃ m, m < n + 1 - i ∧ ∃ H tk W i, s₃ = { s with heap := H, toks := tk } ∧ i ≤ stop ∧ m = n + 1 - i ∧ St i H ∧ Inv env K (Bz Z W H) (fun b => X₀ b ∨ b ∈ wr) W (ρs i) H ∧ (∀ b, W b → W₀ b ∨ hh.get? b = none) ∧
                  (∀ b o, hh.get? b = some o → ¬ W₀ b → b ∉ wr → b ∉ Z → H.get? b = some o) ∧ SlotKeep Z s.heap H
              | .brk => (match (Except.ok Flow.next : Result) with | .ok f => Q f s₃ | .error e => cameBackBy (model prog w) A env EE e s₃)
              | .ret v => (match (Except.ok (Flow.ret v) : Result) with | .ok f => Q f s₃ | .error e => cameBackBy (model prog w) A env EE e s₃)) (notedBy (model prog w) A env fun e s' => match (Except.error e : Result) with | .ok f => Q f s' | .error e => cameBackBy (model prog w) A env EE e s') s₂) (notedBy (model prog w) A env fun e s' => match (Except.error e : Result) with | .ok f => Q f s' | .error e => cameBackBy (model prog w) A env EE e s') s₁') (notedBy (model prog w) A env fun e s' => match (Except.error e : Result) with | .ok f => Q f s' | .error e => cameBackBy (model prog w) A env EE e s') s₁) (notedBy (model prog w) A env fun e s' => match (Except.error e : Result) with | .ok f => Q f s' | .error e => cameBackBy (model prog w) A env EE e s') { s with heap := H, toks := tk } := by
      intro fin hb hret
      refine step i H W tk _ _ fin hSt J hd (fun b o e q1 q2 => hc b o e (fun z => q1 (.inr z)) q2 fun z => q1 (.inl (hZ b z).1)) fun v s₁ h₁ => ?_
      refine wpAny_mono h₁ (fun _ s₁' h₁' => wpAny_mono h₁' (fun _ s₃ h₃ => ?_) fun _ _ e => e) fun _ _ e => e
      obtain ⟨H3, tk3, rfl, hSt3, k3, I3⟩ := h₃
      have zW : ∀ L ∈ Z, ¬ W L := fun L hL => (I3.dom L (.inl (hZ L hL).1)).2
      have hc3 : ∀ b o, hh.get? b = some o → ¬ W₀ b → b ∉ wr → b ∉ Z → H3.get? b = some o := fun b o e q1 q2 q3 => k3 b o (fun q => (hd b q).elim q1 fun z => by rw [z] at e; cases e) q2 (hc b o e q1 q2 q3)
      have hsk3 : SlotKeep Z s.heap H3 := hsk.trans (SlotKeep.of_keep fun L hL o e => k3 L o (zW L hL) (zWr L hL) e)
      refine hb A _ (Bz Z W H3) _ W _ _ R (hΦ _ _ _ φ₀ hsk3) I3 (fun L hL => ⟨.inl (hZ L hL).1, bmax_off (.inr hL)⟩) fun f h' tk' En sk' => ?_
      by_cases hlt : i < stop
      · rw [if_pos hlt] at En
        obtain ⟨rfl, W', I'⟩ := En
        refine ⟨n + 1 - (i + 1), by omega, h', tk', W', i + 1, rfl, hlt, rfl, hframe _ _ _ hSt3 (fun b hb o e => I'.sub b o (bz_some (fpW hd b hb) (fun z => zFp b z hb) e)), I'.bz (fun L hL => bmax_off (.inr hL)), fun b q => ?_,
          fun b o e q1 q2 q3 => I'.sub b o (bz_some (fun q => (hd b q).elim q1 fun z => by rw [z] at e; cases e) q3 (hc3 b o e q1 q2 q3)), hsk3.trans sk'⟩
        rcases bmax_none (I'.off b q) with (q | q) | q
        · exact hd b q
        · exact absurd q (fun z => (I'.dom b (.inl (hZ b z).1)).2 (by assumption))
        · cases e : hh.get? b with
          | none => exact .inr rfl
          | some o =>
            by_cases q1 : W₀ b
            · exact .inl q1
            · by_cases q2 : b ∈ wr
              · have := live _ _ b hSt3 q2; rw [q] at this; cases this
              · by_cases q3 : b ∈ Z
                · have := hsk3.live q3 (zLive b q3); rw [q] at this; cases this
                · have := hc3 b o e q1 q2 q3; rw [q] at this; cases this
      · rw [if_neg hlt] at En
        obtain ⟨P, rfl⟩ := hret hlt
        obtain ⟨u, rfl, hsub', hp⟩ := En
        refine hQ _ h' tk' ⟨u, rfl, fun a o e => hsub' a o (bz_some (fun q => (hd a q).elim (nW₀ a o e) fun z => ?_) (nZ₀ a o e) (hc3 a o (k₀' a o (I₀.sub a o e)) (nW₀ a o e) (wrB a o e) (nZ₀ a o e))), P.refr (fun b q => .inl (.inl q)) hp⟩ (hsk3.trans sk')
        have := k₀' a o (I₀.sub a o e); rw [z] at this; cases this
    rcases Nat.lt_or_ge i stop with hlt | hge
    · exact cont (by omega) (by rw [if_pos hlt]; exact hbody i hlt) (fun q => absurd hlt q)
    · obtain rfl : i = stop := Nat.le_antisymm hi hge
      rcases hend with ⟨rfl, rfl⟩ | ⟨hlt, P, rfl, hb⟩
      · refine done _ _ _ hSt fun h' tk' k' => wpAny_execs_nil ?_
        refine hQ .next h' tk' ⟨rfl, W, ?_⟩ (hsk.trans (SlotKeep.of_keep fun L hL o e => k' L o (zWr L hL) e))
        refine J.gone (wr := wr) k' I₀.kb (fun a o e => k' a o (wrB a o e) (hc a o (k₀' a o (I₀.sub a o e)) (nW₀ a o e) (wrB a o e) (nZ₀ a o e))) (fun b q hb => ?_) (fun b q => ?_) cellsOff
        · have := (I₀.dom b q).1; rw [new b hb] at this; cases this
        · cases e : B b with
          | none => rfl
          | some o =>
            rcases hd b q with q | q
            · rw [I₀.off b q] at e; cases e
            · have := k₀' b o (I₀.sub b o e); rw [q] at this; cases this
      · exact cont hlt (by rw [if_neg (Nat.lt_irrefl _)]; exact hb) (fun _ => ⟨P, rfl⟩)
  · have I₁ := (I₀.keeps k₀').bz (Z := Z) fun L hL => (hZ L hL).2
    obtain ⟨m, cm, F, V, O⟩ := I₀.body
    refine ⟨I₁.kb, I₁.sub, fun b q => ?_, I₁.off, I₁.live, I₁.wl, I₁.wc, I₁.apart, I₁.coff, m, cm, F.keeps k₀', (V.refr (X' := fun b => (X₀ b ∨ b ∈ wr) ∨ W₀ b) fun b q => ?_).keeps k₀', O⟩
    · rcases q with q | q
      · exact I₁.dom b q
      · exact ⟨base b (hsub b q), fun z => by have := I₀.live b z; rw [new b q] at this; cases this⟩
    · rcases q with (q | q) | q
      · exact .inl (.inl q)
      · exact .inr (new b q)
      · exact .inl (.inr q)
end
end
end Mine

namespace Mine
open PySem PySem.Calls

section
variable {prog : Program} {w : World} {K : PM} {gl : List (Str × Value)} {env : Env} {r : Nat} {ρ : Ctx}

theorem exsg_for {Z : List Addr} {Φ : Around → Heap → Prop} {x : Str} {px pos : Pos} {iter : Expr} {body : List Stmt} {Ps : List HV} {O : Out} (ρs : Nat → Ctx) (stop : Nat) (hΦ : ∀ A h h', Φ A h → SlotKeep Z h h' → Φ A h') (C : CanStore env x) (hit : It prog w K env r (ρs 0) iter Ps) (hstop : stop ≤ Ps.length)
    (hbody : ∀ i P, i < stop → Ps[i]? = some P → ExG prog w K Z Φ env r ((x, .imm P) :: ρs i) body (.next (ρs (i + 1))))
    (hend : (stop = Ps.length ∧ O = .next (ρs stop)) ∨ (∃ P P', Ps[stop]? = some P ∧ O = .ret P' ∧ ExG prog w K Z Φ env r ((x, .imm P) :: ρs stop) body (.ret P')))
    (hs : ∀ x, foldedSetIterable iter env x = pure x := by intro _; rfl) : ExSG prog w K Z Φ env r (ρs 0) (.For (.Name x px) iter body [] pos) O := by
  intro A s B X₀ W₀ Q E R φ I hZ c
  refine wpAny_For (hit A s _ _ E R I.subK I.sat fun it h₂ t₂ k₂ T => ?_) hs
  obtain ⟨Ic, fp, wr, P, St, rfl, walks, st, live, base, off, new, item⟩ := T
  have Wk := walks A R.hh
  refine for_core (n := Ps.length) (stop := stop) (ρs := ρs) (bnd := fun i => match Ps[i]? with | some P => (x, .imm P) :: ρs i | none => ρs i) (O := O) (B := B) (X₀ := X₀) (W₀ := W₀) (fp := fp) (wr := wr) (St := St) R φ hΦ hZ I k₂ ⟨_, _, rfl⟩ Wk.sub Wk.frame st live base off new hstop ?_ Wk.done ?_ ?_ c
  · intro i H W tk Q' E' hi hSt J hd hc fin
    obtain ⟨Pi, hPi⟩ : ∃ Q, Ps[i]? = some Q := ⟨_, List.getElem?_eq_getElem hi⟩
    have cellsOff : ∀ n c, env.cells.lookup n = some c → c ∉ wr := fun n c hc hb => by
      obtain ⟨m, cm, F, _⟩ := I.body
      obtain ⟨o, q, _⟩ := F.cell n c hc
      rw [new c hb] at q; cases q
    have KOff : ∀ a ∈ wr, K a = none := fun a ha => by
      cases e : K a with
      | none => rfl
      | some o => have := I.subK a o e; rw [new a ha] at this; cases this
    refine Wk.item i _ _ _ hi hSt fun v h' tk' hP hSt' k' => fin v _ ?_
    refine wpAny_of_eq (a := ()) (by rfl) ?_
    have J' : Inv env K (Bz Z W h') (fun b => X₀ b ∨ b ∈ wr) W (ρs i) h' := J.move (V := fun b => b ∈ wr) k' (fun b q => .inr q) cellsOff (fun b q => live _ _ b hSt' q) (fun a o e => by
      obtain ⟨q1, q2⟩ := bmax_of (J.kb a o e)
      exact bmax_some q1 (k' a o (fun q => by rw [KOff a q] at e; cases e) q2)) (fun a o e => (bmax_of e).2) (fun b q => bmax_off (.inl q))
    have nW : ∀ b ∈ fp, ¬ W b := fun b hb q => by
      rcases hd b q with q | q
      · exact off b hb (.inr q)
      · have := base b hb; rw [q] at this; cases this
    have pv : Pi.p (fun b => (X₀ b ∨ b ∈ wr) ∨ W b) h' v := by
      have p1 : Pi.p (fun b => ((X₀ b ∨ W₀ b) ∨ b ∈ wr) ∨ W b) h₂ v := Pi.refr (fun b q => by
        rcases q with q | q
        · exact .inl q
        · rcases hd b q with q | q
          · exact .inl (.inl (.inr q))
          · exact .inr q) (item i v Pi hPi hP)
      have p2 : Pi.p (fun b => ((X₀ b ∨ W₀ b) ∨ b ∈ wr) ∨ W b) h' v := Pi.frame (fun b o hb e => k' b o (fun q => hb (.inl (.inr q))) (hc b o e (fun q => hb (.inl (.inl q))) (fun q => hb (.inl (.inr q))))) p1
      exact Pi.refr (fun b q => .inl (by
        rcases q with (q | q) | q
        · exact .inl (.inl (.inl q))
        · exact .inl (.inr q)
        · exact .inr q)) p2
    refine wpAny_assign_Name (bind_imm (s := { s with heap := h', toks := tk' }) J' C pv fun h3 tk3 I3 k3 => ⟨h3, tk3, rfl, Wk.frame _ _ _ hSt' fun b hb o e => k3 b o (nW b hb) e, fun b o q1 q2 e => k3 b o q1 (k' b o q2 e), ?_⟩)
    simp only [hPi]
    exact I3.bz fun L hL => bmax_off (.inr hL)
  · intro i hi
    obtain ⟨Pi, hPi⟩ : ∃ Q, Ps[i]? = some Q := ⟨_, List.getElem?_eq_getElem (Nat.lt_of_lt_of_le hi hstop)⟩
    simp only [hPi]
    exact hbody i Pi hi hPi
  · rcases hend with ⟨rfl, h⟩ | ⟨P, P', h1, h2, h3⟩
    · exact .inl ⟨rfl, h⟩
    · refine .inr ⟨(List.getElem?_eq_some_iff.mp h1).1, P', h2, ?_⟩
      simp only [h1]; exact h3

theorem exs_for {x : Str} {px pos : Pos} {iter : Expr} {body : List Stmt} {Ps : List HV} {O : Out} (ρs : Nat → Ctx) (stop : Nat) (C : CanStore env x) (hit : It prog w K env r (ρs 0) iter Ps) (hstop : stop ≤ Ps.length)
    (hbody : ∀ i P, i < stop → Ps[i]? = some P → Ex prog w K env r ((x, .imm P) :: ρs i) body (.next (ρs (i + 1))))
    (hend : (stop = Ps.length ∧ O = .next (ρs stop)) ∨ (∃ P P', Ps[stop]? = some P ∧ O = .ret P' ∧ Ex prog w K env r ((x, .imm P) :: ρs stop) body (.ret P')))
    (hs : ∀ x, foldedSetIterable iter env x = pure x := by intro _; rfl) : ExS prog w K env r (ρs 0) (.For (.Name x px) iter body [] pos) O :=
  exs_ofG (exsg_for ρs stop (fun _ _ _ _ _ => trivial) C hit hstop (fun i P h1 h2 => exg_of (hbody i P h1 h2)) (hend.imp id fun ⟨P, P', h1, h2, h3⟩ => ⟨P, P', h1, h2, exg_of h3⟩) hs)

/-! ### pairs -/
structure WalksP (prog : Program) (w : World) (A : Around) (I : Addr) (fp wr : List Addr) (n : Nat) (Pt : Nat → Array Value → Prop) (St : Nat → Heap → Prop) (Mid : Nat → Addr → Heap → Prop) : Prop where
  sub : ∀ b ∈ wr, b ∈ fp
  frame : ∀ i h h', St i h → (∀ b ∈ fp, ∀ o, h.get? b = some o → h'.get? b = some o) → St i h'
  item : ∀ i (s : Shared) (Q : Option Value → Shared → Prop) (E : Value → Shared → Prop), i < n → St i s.heap →
    (∀ T vals h' tk, Pt i vals → h'.IsTuple T vals → Mid i T h' → (∀ b o, b ∉ wr → s.heap.get? b = some o → h'.get? b = some o) → Q (some (.ref T)) { s with heap := h', toks := tk }) →
    wpAny (model prog w) A (pyNext (.ref I)) Q E s
  go : ∀ (elts : List Expr) (k : Nat) (pos : Pos) i T (s : Shared) (Q : Unit → Shared → Prop) (E : Value → Shared → Prop), Mid i T s.heap →
    (∀ h', St (i + 1) h' → (∀ b o, b ∉ wr → s.heap.get? b = some o → h'.get? b = some o) → Q () { s with heap := h' }) →
    wpAny (model prog w) A (letOwnedTupleGo (.Tuple elts k pos) (.ref I) (.ref T)) Q E s
  apart : ∀ i T h, Mid i T h → T ∉ wr
  done : ∀ (s : Shared) (Q : Option Value → Shared → Prop) (E : Value → Shared → Prop), St n s.heap →
    (∀ h' tk, (∀ b o, b ∉ wr → s.heap.get? b = some o → h'.get? b = some o) → Q none { s with heap := h', toks := tk }) → wpAny (model prog w) A (pyNext (.ref I)) Q E s
structure ItSt2 (prog : Program) (w : World) (X : XS) (h₀ h : Heap) (it : Value) (Ps : List (HV × HV)) where
  I : Addr
  fp : List Addr
  wr : List Addr
  P : Nat → Array Value → Prop
  St : Nat → Heap → Prop
  Mid : Nat → Addr → Heap → Prop
  isI : it = .ref I
  walks : ∀ A : Around, A.handled = none → WalksP prog w A I fp wr Ps.length P St Mid
  st : St 0 h
  live : ∀ i h' b, St i h' → b ∈ wr → (h'.get? b).isSome = true
  base : ∀ b ∈ fp, (h.get? b).isSome = true
  off : ∀ b ∈ fp, ¬ X b
  new : ∀ b ∈ wr, h₀.get? b = none
  item : ∀ i vs Q, Ps[i]? = some Q → P i vs → ∃ u v, vs = #[u, v] ∧ Q.1.p (fun b => X b ∨ b ∈ wr) h u ∧ Q.2.p (fun b => X b ∨ b ∈ wr) h v

end
section
variable (prog : Program) (w : World) (K : PM)
noncomputable def It2 (env : Env) (r : Nat) (ρ : Ctx) (e : Expr) (Ps : List (HV × HV)) : Prop :=
  ∀ (A : Around) (s : Shared) (X : XS) (Q : Value → Shared → Prop) (E : Value → Shared → Prop), Room A r → Sub K s.heap → Sat env ρ X s.heap →
    (∀ it h' tk, (∀ b o, s.heap.get? b = some o → h'.get? b = some o) → Nonempty (ItSt2 prog w X s.heap h' it Ps) → Q it { s with heap := h', toks := tk }) →
    wpAny (model prog w) A (eval e env) (fun xv s₁ => wpAny (model prog w) A (pyIter xv) Q E s₁) E s
end
section
variable {prog : Program} {w : World} {K : PM} {gl : List (Str × Value)} {env : Env} {r : Nat} {ρ : Ctx}

theorem exs_for2 {x y : Str} {px py pt pos : Pos} {x1 : Nat} {iter : Expr} {body : List Stmt} {Ps : List (HV × HV)} {O : Out} (ρs : Nat → Ctx) (stop : Nat) (C : CanStore env x) (C2 : CanStore env y) (hit : It2 prog w K env r (ρs 0) iter Ps) (hstop : stop ≤ Ps.length)
    (hbody : ∀ i P, i < stop → Ps[i]? = some P → Ex prog w K env r ((y, .imm P.2) :: (x, .imm P.1) :: ρs i) body (.next (ρs (i + 1))))
    (hend : (stop = Ps.length ∧ O = .next (ρs stop)) ∨ (∃ P P', Ps[stop]? = some P ∧ O = .ret P' ∧ Ex prog w K env r ((y, .imm P.2) :: (x, .imm P.1) :: ρs stop) body (.ret P')))
    (hs : ∀ x, foldedSetIterable iter env x = pure x := by intro _; rfl) : ExS prog w K env r (ρs 0) (.For (.Tuple [.Name x px, .Name y py] x1 pt) iter body [] pos) O := by
  intro A s B X₀ W₀ Q E R I c
  refine wpAny_For (hit A s _ _ E R I.subK I.sat fun it h₂ t₂ k₂ T => ?_) hs
  obtain ⟨Ic, fp, wr, P, St, Mid, rfl, walks, st, live, base, off, new, item⟩ := T
  have Wk := walks A R.hh
  refine for_core (n := Ps.length) (stop := stop) (ρs := ρs) (Z := []) (Φ := fun _ _ => True) (bnd := fun i => match Ps[i]? with | some P => (y, .imm P.2) :: (x, .imm P.1) :: ρs i | none => ρs i) (O := O) (B := B) (X₀ := X₀) (W₀ := W₀) (fp := fp) (wr := wr) (St := St) R trivial (fun _ _ _ _ _ => trivial) (fun L hL => by cases hL) I k₂ ⟨_, _, rfl⟩ Wk.sub Wk.frame st live base off new hstop ?_ Wk.done ?_ ?_ fun f h' tk En _ => c f h' tk En
  · intro i H W tk Q' E' hi hSt J hd hc fin
    obtain ⟨Pi, hPi⟩ : ∃ Q, Ps[i]? = some Q := ⟨_, List.getElem?_eq_getElem hi⟩
    have cellsOff : ∀ n c, env.cells.lookup n = some c → c ∉ wr := fun n c hc hb => by
      obtain ⟨m, cm, F, _⟩ := I.body
      obtain ⟨o, q, _⟩ := F.cell n c hc
      rw [new c hb] at q; cases q
    have KOff : ∀ a ∈ wr, K a = none := fun a ha => by
      cases e : K a with
      | none => rfl
      | some o => have := I.subK a o e; rw [new a ha] at this; cases this
    refine Wk.item i _ _ _ hi hSt fun T vals h' tk' hP hT hMid k' => fin _ _ ?_
    obtain ⟨u, v, rfl, pu₀, pv₀⟩ := item i vals Pi hPi hP
    refine Wk.go _ x1 pt i T _ _ _ hMid fun h'' hSt'' k'' => ?_
    have ht₂ : h''.IsTuple T #[u, v] := hT.at fun o e => k'' T o (Wk.apart i T h' hMid) e
    refine wpAny_assign_Tuple (s := { s with heap := h'', toks := tk' }) R.hh ht₂ rfl rfl fun h₃ hx₃ => ?_
    replace hx₃ : Heap.ExtBut h''.objs.size h'' h₃ := hx₃
    have up₃ : ∀ b o, h''.get? b = some o → h₃.get? b = some o := fun b o x => hx₃ b o (Nat.ne_of_lt (Heap.lt_size x)) x
    have kk : ∀ b o, b ∉ wr → H.get? b = some o → h₃.get? b = some o := fun b o q e => up₃ b o (k'' b o q (k' b o q e))
    have hSt3 : St (i + 1) h₃ := Wk.frame _ _ _ hSt'' fun b _ o e => up₃ b o e
    have J' : Inv env K (Bz [] W h₃) (fun b => X₀ b ∨ b ∈ wr) W (ρs i) h₃ := J.move (V := fun b => b ∈ wr) kk (fun b q => .inr q) cellsOff (fun b q => live _ _ b hSt3 q) (fun a o e => by
      obtain ⟨q1, q2⟩ := bmax_of (J.kb a o e)
      exact bmax_some q1 (kk a o (fun q => by rw [KOff a q] at e; cases e) q2)) (fun a o e => (bmax_of e).2) (fun b q => bmax_off (.inl q))
    have nW : ∀ b ∈ fp, ¬ W b := fun b hb q => by
      rcases hd b q with q | q
      · exact off b hb (.inr q)
      · have := base b hb; rw [q] at this; cases this
    have conv : ∀ (Pi : HV) v, Pi.p (fun b => (X₀ b ∨ W₀ b) ∨ b ∈ wr) h₂ v → Pi.p (fun b => (X₀ b ∨ b ∈ wr) ∨ W b) h₃ v := by
      intro Pi v hp
      have p1 : Pi.p (fun b => ((X₀ b ∨ W₀ b) ∨ b ∈ wr) ∨ W b) h₂ v := Pi.refr (fun b q => by
        rcases q with q | q
        · exact .inl q
        · rcases hd b q with q | q
          · exact .inl (.inl (.inr q))
          · exact .inr q) hp
      have p2 : Pi.p (fun b => ((X₀ b ∨ W₀ b) ∨ b ∈ wr) ∨ W b) h₃ v := Pi.frame (fun b o hb e => kk b o (fun q => hb (.inl (.inr q))) (hc b o e (fun q => hb (.inl (.inl q))) (fun q => hb (.inl (.inr q))))) p1
      exact Pi.refr (fun b q => .inl (by
        rcases q with (q | q) | q
        · exact .inl (.inl (.inl q))
        · exact .inl (.inr q)
        · exact .inr q)) p2
    have pu := conv Pi.1 u pu₀
    have pv := conv Pi.2 v pv₀
    show wpAny _ A (do holding [v] (assign (.Name x px) env u); do holding [] (assign (.Name y py) env v); pure ()) _ _ _
    refine wpAny_bind (wpAny_holding (wpAny_assign_Name (bind_imm (s := { s with heap := h₃, toks := tk' }) J' C pu fun h4 tk4 I4 k4 => ?_)))
    have pv4 : Pi.2.p (fun b => (X₀ b ∨ b ∈ wr) ∨ W b) h4 v := Pi.2.frame (fun b o hb e => k4 b o (fun q => hb (.inr q)) e) pv
    refine wpAny_bind (wpAny_holding (wpAny_assign_Name (bind_imm (s := { s with heap := h4, toks := tk4 }) I4 C2 pv4 fun h5 tk5 I5 k5 => wpAny_pure ?_)))
    refine ⟨h5, tk5, rfl, Wk.frame _ _ _ hSt3 fun b hb o e => k5 b o (nW b hb) (k4 b o (nW b hb) e), fun b o q1 q2 e => k5 b o q1 (k4 b o q1 (kk b o q2 e)), ?_⟩
    simp only [hPi]
    exact I5.bz fun L hL => by cases hL
  · intro i hi
    obtain ⟨Pi, hPi⟩ : ∃ Q, Ps[i]? = some Q := ⟨_, List.getElem?_eq_getElem (Nat.lt_of_lt_of_le hi hstop)⟩
    simp only [hPi]
    exact exg_of (hbody i Pi hi hPi)
  · rcases hend with ⟨rfl, h⟩ | ⟨P, P', h1, h2, h3⟩
    · exact .inl ⟨rfl, h⟩
    · refine .inr ⟨(List.getElem?_eq_some_iff.mp h1).1, P', h2, ?_⟩
      simp only [h1]; exact exg_of h3

theorem walksItems {κ : Type} [DecidableEq κ] {knd : KeyKind prog w κ} {A : Around} (hh : A.handled = none) (I d : Addr) (hne : d ≠ I) (kvs : List (κ × Value)) (ep : Nat) :
    WalksP prog w A I [I, d] [I] kvs.length (fun i vs => ∃ k key v, kvs[i]? = some (k, v) ∧ knd.is k key = true ∧ vs = #[key, v])
      (fun i h => (∃ ok ov, IsItemIter h I d i kvs.length ep ok ov) ∧ h.DictAt knd d kvs ep)
      (fun i T h => T ≠ I ∧ (∃ ok ov, IsItemIterOut h I d (i + 1) kvs.length ep ok ov T) ∧ h.DictAt knd d kvs ep) where
  sub := fun b hb => by simp at hb; simp [hb]
  frame := fun _ _ _ st hk => let ⟨⟨ok, ov, e⟩, r⟩ := st; ⟨⟨ok, ov, hk I (by simp) _ e⟩, r.at' fun o e => hk d (by simp) o e⟩
  item := fun i s Q E hi st hQ => by
    obtain ⟨⟨ok, ov, hit⟩, hd⟩ := st
    obtain ⟨⟨k, x⟩, hx⟩ : ∃ p, kvs[i]? = some p := ⟨kvs[i], by simp [hi]⟩
    refine wpAny_pyNext_items_item hit hd hx fun key h' hkey heo ht hz hk => ?_
    exact hQ _ _ h' s.toks ⟨k, key, x, hx, hkey, rfl⟩ ⟨_, ht, rfl, _, rfl⟩ ⟨Nat.ne_of_gt (Heap.lt_size hit), ⟨_, _, heo⟩, hd.at' fun o e => hk d o hne e⟩ fun b o hb e => hk b o (fun h => hb (by simp [h])) e
  go := fun elts k pos i T s Q E hm hQ => by
    obtain ⟨hT, ⟨ok, ov, heo⟩, hd⟩ := hm
    refine wpAny_letOwnedTupleGo_items heo fun h' he' hs' => hQ h' ⟨⟨ok, ov, he'⟩, hd.extBut hs'.extBut hne⟩ fun b o hb e => hs'.extBut b o (fun h => hb (by simp [h])) e
  apart := fun i T h hm hb => by simp at hb; exact hm.1 hb
  done := fun s Q E st hQ => by
    obtain ⟨⟨ok, ov, hit⟩, hd⟩ := st
    exact wpAny_pyNext_items_end hh hit hd (by simp) fun h' he' => hQ h' s.toks fun b o hb e => he' b o (fun h => hb (by simp [h])) e

noncomputable def ItSt2.two {X : XS} {h₀ h₁ : Heap} {o ob : Obj} {a : Addr} {Ps : List (HV × HV)} {P : Nat → Array Value → Prop} {St : Nat → Heap → Prop} {Mid : Nat → Addr → Heap → Prop} {n : Nat} (hn : Ps.length = n) (ho : o.isFreed = false) (hX : ∀ b, X b → (h₀.get? b).isSome = true) (k₁ : ∀ b o, h₀.get? b = some o → h₁.get? b = some o)
    (ha : h₁.get? a = some ob) (hXa : ¬ X a) (more : List Addr) (hm : ∀ b ∈ more, (h₁.get? b).isSome = true ∧ ¬ X b)
    (W : ∀ A : Around, A.handled = none → WalksP prog w A h₁.objs.size (h₁.objs.size :: a :: more) [h₁.objs.size] n P St Mid) (st : St 0 (h₁.push o)) (live : ∀ i h', St i h' → (h'.get? h₁.objs.size).isSome = true)
    (item : ∀ i vs Q, Ps[i]? = some Q → P i vs → ∃ u v, vs = #[u, v] ∧ Q.1.p X h₁ u ∧ Q.2.p X h₁ v) : ItSt2 prog w X h₀ (h₁.push o) (.ref h₁.objs.size) Ps where
  I := h₁.objs.size
  fp := h₁.objs.size :: a :: more
  wr := [h₁.objs.size]
  P := P
  St := St
  Mid := Mid
  isI := rfl
  walks := fun A hA => hn ▸ W A hA
  st := st
  live := by
    intro i h' b hs hb
    simp only [List.mem_singleton] at hb; subst hb; exact live i h' hs
  base := by
    intro b hb
    simp only [List.mem_cons] at hb
    rcases hb with rfl | rfl | hb
    · exact liveAt (Heap.get?_push_size _ ho)
    · exact liveAt (Heap.get?_push_of_some _ ha)
    · obtain ⟨o, e⟩ := Option.isSome_iff_exists.mp (hm b hb).1
      exact liveAt (Heap.get?_push_of_some _ e)
  off := by
    intro b hb
    simp only [List.mem_cons] at hb
    rcases hb with rfl | rfl | hb
    · exact notIn hX (freshNone' k₁)
    · exact hXa
    · exact (hm b hb).2
  new := by
    intro b hb
    simp only [List.mem_singleton] at hb; subst hb
    exact freshNone' k₁
  item := by
    intro i vs Q hQ hP
    obtain ⟨u, v, e, p1, p2⟩ := item i vs Q hQ hP
    refine ⟨u, v, e, wrUp p1 (fun b hb => ?_) fun b o q => Heap.get?_push_of_some _ q, wrUp p2 (fun b hb => ?_) fun b o q => Heap.get?_push_of_some _ q⟩
    all_goals simp only [List.mem_singleton] at hb; subst hb; exact freshNone _

theorem it2_items {κ : Type} [DecidableEq κ] {knd : KeyKind prog w κ} {kvs : List (κ × HV)} {TK : κ → HV} {e : Expr} {apos pos : Pos} (he : Ev prog w K env r ρ e (TDict knd kvs)) (hK : ∀ k X h v, knd.is k v = true → (TK k).p X h v)
    (hbase : attributeBase e "items" env (eval e env) = eval e env := by rfl) (hline : (apos.endLine == pos.line) = true := by rfl) : It2 prog w K env r ρ (.Call (.Attribute e "items" apos) [] [] pos) (kvs.map fun kv => (TK kv.1, kv.2)) := by
  intro A s X Q E R k S c
  refine wpAny_Call_method hbase rfl hline F.plainAttrs_dict F.slot_dict_items F.type_dict_items (he A s X _ _ R k S ?_)
  rintro v h₁ t₁ k₁ ⟨⟨a, rfl, hX⟩, a', us, e', hs, hd, hi⟩
  cases e'
  refine ⟨hd.typeIs, hd.mapOf.noDict, ?_⟩
  refine Calls.callWith_builtin rfl (evalArgs_trees rfl (Calls.spliced_nil ?_))
  refine call_meetsIn F.slot_dict_items hd.typeIs F.entry_dict_items (F.args_dict_items_1 _) (meets_dict_items knd a hs) ⟨⟨us, hd⟩, ?_⟩
  obtain ⟨ep, hat⟩ : ∃ ep, h₁.DictAt knd a us ep := by
    obtain ⟨o, es, ep, ho, r⟩ := hd; exact ⟨ep, o, es, ho, r⟩
  have k₂ : ∀ b o, s.heap.get? b = some o → (h₁.push { cls := .type "dict_items", data := .fields #[.ref a] }).get? b = some o := fun b o q => Heap.get?_push_of_some _ (k₁ b o q)
  have hat₂ : (h₁.push { cls := .type "dict_items", data := .fields #[.ref a] }).DictAt knd a us ep := hat.at' fun o q => Heap.get?_push_of_some _ q
  have ⟨o₂, es₂, ho₂, _⟩ := hat₂
  have hlen : (kvs.map fun kv => (TK kv.1, kv.2)).length = us.length := by rw [List.length_map, hi.length]
  refine wpAny_pyIter_items (knd := knd) ⟨_, Heap.get?_push_size _ rfl, rfl, rfl⟩ hat₂ (c _ _ _ (fun b o q => Heap.get?_push_of_some _ (k₂ b o q)) ⟨.two hlen rfl S.1 k₂ ho₂ hX [] (by simp)
    (fun A' hA => walksItems hA _ a (Nat.ne_of_lt (Heap.lt_size ho₂)) us ep) ⟨⟨.none, .none, by unfold IsItemIter; exact Heap.get?_push_size _ rfl⟩, hat₂.at' fun o q => Heap.get?_push_of_some _ q⟩ (by rintro i h' ⟨⟨_, _, e⟩, _⟩; exact liveAt e) ?_⟩)
  rintro i vs P hP ⟨kk, key, v, hx, hkey, rfl⟩
  rw [List.getElem?_map, Option.map_eq_some_iff] at hP
  obtain ⟨kv, hkv, rfl⟩ := hP
  have := hi.get hkv hx
  refine ⟨key, v, rfl, hK _ _ _ _ (this.1 ▸ hkey), ?_⟩
  exact kv.2.frame (fun b o _ q => Heap.get?_push_of_some _ q) this.2

theorem walksU {A : Around} {I : Addr} {fp wr : List Addr} {n : Nat} {Pt : Nat → Array Value → Prop} {St : Nat → Heap → Prop} {Mid : Nat → Addr → Heap → Prop} (U : WalksU prog w A I fp wr n Pt St Mid) : WalksP prog w A I fp wr n Pt St Mid :=
  ⟨U.sub, U.frame, U.item, U.go, U.apart, U.done⟩
end
end Mine

namespace Mine
open PySem PySem.Calls

/-! ### the start of a call -/
theorem valBind {env : Env} : ∀ (binds : List (Str × Value)) (m cm : Str → Option Value) (x : Str), (∀ p ∈ binds, CanStore env p.1) →
    valOf env (bindL env.kindOf binds m) (bindC env.kindOf binds cm) x = (match binds.reverse.lookup x with | some v => some v | none => valOf env m cm x)
  | [], m, cm, x, _ => rfl
  | (n, v) :: r, m, cm, x, h => by
    have ih := valBind r (setM env n v m) (setC env n v cm) x fun p hp => h p (List.mem_cons_of_mem _ hp)
    have e1 : bindL env.kindOf ((n, v) :: r) m = bindL env.kindOf r (setM env n v m) := by unfold setM; split <;> simp [bindL, *]
    have e2 : bindC env.kindOf ((n, v) :: r) cm = bindC env.kindOf r (setC env n v cm) := by unfold setC; split <;> simp [bindC, *]
    rw [e1, e2, ih, List.reverse_cons, List.lookup_append]
    cases hl : r.reverse.lookup x with
    | some u => rfl
    | none =>
      simp only [Option.none_or, List.lookup_cons, List.lookup_nil]
      cases hb : x == n with
      | true =>
        have := eq_of_beq hb; subst this
        exact valOf_set_self (h (x, v) List.mem_cons_self)
      | false =>
        have hne : x ≠ n := by simpa using hb
        exact valOf_set_other hne

theorem mem_of_lookup'.{u} {α : Type u} : ∀ {l : List (Str × α)} {n : Str} {c : α}, l.lookup n = some c → (n, c) ∈ l
  | (k, v) :: r, n, c, h => by
    rw [List.lookup_cons] at h
    cases hb : n == k with
    | true => rw [hb] at h; cases h; rw [beq_iff_eq.mp hb]; exact List.mem_cons_self
    | false => rw [hb] at h; exact List.mem_cons_of_mem _ (mem_of_lookup' h)
theorem lookup_mapv.{u, v} {α : Type u} {β : Type v} (f : α → β) (x : Str) : ∀ (l : List (Str × α)), (l.map fun p => (p.1, f p.2)).lookup x = (l.lookup x).map f
  | [] => rfl
  | (n, a) :: r => by
    simp only [List.map_cons, List.lookup_cons]
    cases x == n with
    | true => rfl
    | false => exact lookup_mapv f x r
theorem All2.reverse {α β : Type} {R : α → β → Prop} : ∀ {as : List α} {bs : List β}, All2 R as bs → All2 R as.reverse bs.reverse
  | [], [], _ => trivial
  | a :: as, b :: bs, ⟨x, y⟩ => by
    rw [List.reverse_cons, List.reverse_cons]
    exact All2.append (All2.reverse y) ⟨x, trivial⟩
theorem lookup_rel {α β : Type} {R : α → β → Prop} {k : Str} {e : α} : ∀ {xs : List (Str × α)} {ys : List (Str × β)}, All2 (fun x y => x.1 = y.1 ∧ R x.2 y.2) xs ys → xs.lookup k = some e → ∃ v, ys.lookup k = some v ∧ R e v
  | [], [], _, h => by cases h
  | (n, a) :: xs, (n', b) :: ys, ⟨⟨e1, hr⟩, r⟩, h => by
    simp only at e1; subst e1
    rw [List.lookup_cons] at h ⊢
    cases hb : k == n with
    | true => rw [hb] at h; cases h; exact ⟨b, rfl, hr⟩
    | false => rw [hb] at h; exact lookup_rel r h
theorem zipRel {X : XS} {h : Heap} : ∀ (ps : List (Str × HV)) {vs : List Value}, All2 (fun (P : HV) v => P.p X h v) (ps.map (·.2)) vs →
    All2 (fun (x : Str × HV) (y : Str × Value) => x.1 = y.1 ∧ x.2.p X h y.2) ps ((ps.map (·.1)).zip vs)
  | [], [], _ => trivial
  | (n, P) :: ps, v :: vs, hh => ⟨⟨rfl, hh.1⟩, zipRel ps hh.2⟩
theorem lookup_all2 {X : XS} {h : Heap} {ps : List (Str × HV)} {vs : List Value} {x : Str} {e : Ent} (hv : All2 (fun (P : HV) v => P.p X h v) (ps.map (·.2)) vs)
    (hl : (ps.map fun p => (p.1, Ent.imm p.2)).reverse.lookup x = some e) : ∃ v, ((ps.map (·.1)).zip vs).reverse.lookup x = some v ∧ e.w.p X h v := by
  rw [← List.map_reverse, lookup_mapv Ent.imm, Option.map_eq_some_iff] at hl
  obtain ⟨P, hP, rfl⟩ := hl
  exact lookup_rel (R := fun (P : HV) v => P.p X h v) (zipRel ps hv).reverse hP

section
variable {prog : Program} {w : World} {K : PM} {gl : List (Str × Value)} {env : Env} {r : Nat} {ρ : Ctx}

/-- a def whose body was walked -/
theorem fn_of_body {a : Addr} {o : Obj} {fd : FuncData} {body : List Stmt} {ps : List (Str × HV)} {P : HV} (kf : KF K gl) (ho : K a = some o) (hdata : o.data = .func fd) (hcd : ∀ h, Sub K h → h.CodeRec fd.code fd.qualname)
    (hbody : fd.body = .stmts body) (hclo : fd.closure = [])
    (hbind : ∀ vs : List Value, vs.length = ps.length → bindArgs fd ⟨vs, []⟩ = pure ((ps.map (·.1)).zip vs))
    (hst : ∀ L p, p ∈ ps → CanStore (callEnvC fd L a) p.1)
    (h : ∀ L, Ex prog w K (callEnvC fd L a) r (ps.map fun p => (p.1, Ent.imm p.2)).reverse body (.ret P))
    (hco : fd.scope.isCoroutine = false := by rfl) (hgen : fd.scope.isGenerator = false := by rfl) (hk : fd.scope.kind = .function := by rfl) :
    Fn prog w K a (r + 1) (ps.map fun p => p.2.w) P := by
  intro A s X vs Q E R kK hX hv c
  have hlen : vs.length = ps.length := by have := hv.length; simpa using this.symm
  have hv' : All2 (fun (P : HV) v => P.p X s.heap v) (ps.map (·.2)) vs := by
    have : ps.map (fun p => p.2.w) = (ps.map (·.2)).map HV.w := by simp [List.map_map, Function.comp_def]
    rw [this] at hv
    exact All2.map_left.mp hv
  refine wpAny_call (codeAny_call_cells (by have := R.dep; lia) (kK a o ho) hdata (kf.nolimit _ kK) (hcd _ kK) hbody (hbind vs hlen) hclo ?_ (fun s₁ x => ?_) hco hgen hk)
  · rintro ⟨n, v⟩ hm
    have hn := (List.of_mem_zip hm).1
    obtain ⟨p, hp, e⟩ := List.mem_map.mp hn
    have := (hst s.heap.objs.size p hp).ok
    rw [show p.1 = n from e] at this
    exact this
  · obtain ⟨hh, tk, rfl⟩ := x.toInCall.same
    let env := callEnvC fd s.heap.objs.size a
    have szL : ∀ b, (s.heap.get? b).isSome = true → b < s.heap.objs.size := fun b q => by
      obtain ⟨o, e⟩ := Option.isSome_iff_exists.mp q
      exact Heap.lt_size e
    have cellAbove : ∀ n c, env.cells.lookup n = some c → s.heap.objs.size < c := fun n c hc => x.above n c (mem_of_lookup hc)
    refine h s.heap.objs.size (A.deeper env) { s with heap := hh, toks := tk } (fun b => s.heap.get? b) X (fun b => b = env.locals ∨ ∃ n, env.cells.lookup n = some b) _ _ R.deeper ?_ ?_
    · refine ⟨kK, x.toInCall.keep, fun b q => ⟨there_keeps hX x.toInCall.keep b q, fun z => ?_⟩, ?_, ?_, .inl rfl, fun n c hc _ => .inr ⟨n, hc⟩, fun n n' c h1 h2 => name_of_addr x.apart (mem_of_lookup h1) (mem_of_lookup h2), fun n c hc => Nat.ne_of_gt (cellAbove n c hc), _, _, ⟨x.toInCall.ns, x.cell⟩, ?_, ?_⟩
      · have := hX b q
        rcases z with rfl | ⟨n, hc⟩
        · rw [show s.heap.get? env.locals = none from freshNone _] at this; cases this
        · rw [Heap.get?_none_of_le (Nat.le_of_lt (cellAbove n b hc))] at this; cases this
      · rintro b (rfl | ⟨n, hc⟩)
        · exact freshNone _
        · exact Heap.get?_none_of_le (Nat.le_of_lt (cellAbove n b hc))
      · rintro b (rfl | ⟨n, hc⟩)
        · obtain ⟨o, _, _, e, _⟩ := x.toInCall.ns; exact liveAt e
        · obtain ⟨o, e, _⟩ := x.cell n b hc; exact liveAt e
      · intro y e hy
        obtain ⟨v, hl, hp⟩ := lookup_all2 hv' hy
        refine ⟨v, ?_, ?_⟩
        · rw [valBind _ _ _ _ (fun p hp => ?_), hl]
          have hn := (List.of_mem_zip (show (p.1, p.2) ∈ _ from hp)).1
          obtain ⟨q, hq, e⟩ := List.mem_map.mp hn
          exact e ▸ hst s.heap.objs.size q hq
        · refine e.w.mono x.toInCall.keep (Ent.refr hp fun b q => ?_)
          rcases q with q | rfl | ⟨n, hc⟩
          · exact .inl q
          · exact .inr (freshNone _)
          · exact .inr (Heap.get?_none_of_le (Nat.le_of_lt (cellAbove n b hc)))
      · have noOwn : ∀ y e, (ps.map fun p => (p.1, Ent.imm p.2)).reverse.lookup y = some e → e.isOwn = true → False := by
          intro y e hy ho'
          obtain ⟨p, hp, hpe⟩ := List.mem_map.mp (List.mem_reverse.mp (mem_of_lookup' hy))
          cases hpe; cases ho'
        exact ⟨fun y e hy ho' => (noOwn y e hy ho').elim, fun y z ey ez b _ hy _ ho' _ _ => (noOwn y ey hy ho').elim⟩
    · rintro f h' tk' ⟨v, rfl, hs, hp⟩
      exact c v h' tk' hs hp
end
end Mine

namespace Mine
open PySem PySem.Calls

section
variable {prog : Program} {w : World} {K : PM} {gl : List (Str × Value)} {env : Env} {r : Nat} {ρ : Ctx}

/-! ### several names at once -/
noncomputable def bindAll : List Str → List HV → Ctx → Ctx
  | x :: xs, P :: Ps, ρ => bindAll xs Ps ((x, .imm P) :: ρ)
  | _, _, ρ => ρ
noncomputable def nameTargets : List (Str × Pos) → List Expr := fun l => l.map fun p => .Name p.1 p.2

theorem assign_all {B : PM} {X₀ W : XS} {A : Around} {E : Value → Shared → Prop} (xs : List (Str × Pos)) : ∀ (Ps : List HV) (vs : List Value) (ρ : Ctx) (s : Shared) (Q : Unit → Shared → Prop), xs.length = Ps.length → (∀ p ∈ xs, CanStore env p.1) → Inv env K B X₀ W ρ s.heap →
    All2 (fun (P : HV) v => P.p (fun b => X₀ b ∨ W b) s.heap v) Ps vs → (∀ h' tk, Inv env K B X₀ W (bindAll (xs.map (·.1)) Ps ρ) h' → Q () { s with heap := h', toks := tk }) →
    wpAny (model prog w) A (assignInOrder ((assignEach (nameTargets xs) env).map (·.2)) vs) Q E s := by
  induction xs with
  | nil =>
    intro Ps vs ρ s Q hl _ I hv c
    cases Ps with
    | cons _ _ => cases hl
    | nil =>
      cases vs with
      | cons _ _ => exact hv.elim
      | nil => exact wpAny_pure (c s.heap s.toks I)
  | cons xp xs ih =>
    intro Ps vs ρ s Q hl hC I hv c
    obtain ⟨x, p⟩ := xp
    cases Ps with
    | nil => cases hl
    | cons P Ps =>
      cases vs with
      | nil => exact hv.elim
      | cons v vs =>
        have hp : P.p (fun b => X₀ b ∨ W b) s.heap v := hv.1
        have hr : All2 (fun (P : HV) v => P.p (fun b => X₀ b ∨ W b) s.heap v) Ps vs := hv.2
        show wpAny _ A (do holding vs (assign (.Name x p) env v); assignInOrder ((assignEach (nameTargets xs) env).map (·.2)) vs) Q E s
        refine wpAny_bind (wpAny_holding (wpAny_assign_Name (bind_imm I (hC _ List.mem_cons_self) hp fun h' tk I' k' => ?_)))
        exact ih Ps vs _ { s with heap := h', toks := tk } Q (by simpa using hl) (fun q hq => hC q (List.mem_cons_of_mem _ hq)) I' (hr.imp fun P u hu => P.frame (fun b o hb e => k' b o (fun q => hb (.inr q)) e) hu) fun h'' tk' I'' => c h'' tk' I''
theorem assignEach_len : ∀ (xs : List (Str × Pos)), (assignEach (nameTargets xs) env).length = xs.length
  | [] => rfl
  | x :: xs => by
    show (assignEach (nameTargets xs) env).length + 1 = xs.length + 1
    rw [assignEach_len xs]
theorem assignEach_star : ∀ (xs : List (Str × Pos)), (assignEach (nameTargets xs) env).findIdx? (·.1) = none
  | [] => rfl
  | x :: xs => by
    show List.findIdx? _ ((false, assign (.Name x.1 x.2) env) :: assignEach (nameTargets xs) env) = none
    rw [List.findIdx?_cons]
    simp [assignEach_star xs]

/-- a, b, c = e -/
theorem exs_unpack (xs : List (Str × Pos)) {k : Nat} {tpos pos : Pos} {e : Expr} {Ps : List HV} (hC : ∀ p ∈ xs, CanStore env p.1) (hlen : xs.length = Ps.length) (he : Ev prog w K env r ρ e (LSeq "tuple" Ps))
    (hs : swapsWithSole [.Tuple (nameTargets xs) k tpos] e pos.line env = pure false := by rfl) (hw : swappedStores [.Tuple (nameTargets xs) k tpos] e env = pure none := by rfl) :
    ExS prog w K env r ρ (.Assign [.Tuple (nameTargets xs) k tpos] e pos) (.next (bindAll (xs.map (·.1)) Ps ρ)) := by
  intro A s B X₀ W Q E R I c
  refine PyProof.Rows.Assign_Tuple (he A s _ _ E R I.subK I.sat ?_) hs hw
  rintro v h₁ t₁ k₁ ⟨a, vs, n, rfl, ho, hi⟩
  have hsz : vs.size = Ps.length := by rw [hi.length]; simp
  refine wpAny_assign_Tuple (s := { s with heap := h₁, toks := t₁ }) (items := vs) R.hh ⟨_, ho, rfl, n, rfl⟩ (by rw [assignEach_len, hlen, hsz]) (assignEach_star xs) fun h₂ hx₂ => ?_
  replace hx₂ : Heap.ExtBut h₁.objs.size h₁ h₂ := hx₂
  have up₂ : ∀ b o, h₁.get? b = some o → h₂.get? b = some o := fun b o x => hx₂ b o (Nat.ne_of_lt (Heap.lt_size x)) x
  refine assign_all xs Ps vs.toList ρ { s with heap := h₂, toks := t₁ } _ hlen hC ((I.keeps k₁).keeps up₂) (hi.imp fun P u hu => P.frame (fun b o _ q => up₂ b o q) hu) fun h' tk I' => c .next h' tk ⟨rfl, W, I'⟩

/-- x = [ ... for ... ] on one line: the store comes ahead of the loop's end -/
theorem exs_comp {y : Str} {py : Pos} {elt iter : Expr} {x : Str} {px spos : Pos} {ifs : List Expr} {scope : Scope} {pos : Pos} {own : Bool} {Ps : List HV} (fs : List (Option HV)) (C : CanStore env y) (CO : CompOk env ρ scope x own)
    (hit : It prog w K env r ρ iter Ps) (hlen : fs.length = Ps.length) (hsz : Ps.length ≤ sizeLine)
    (htest : ∀ (cs : List (Str × Addr)) (C : Addr) (i : Nat) (P : HV) (f : Option HV), Ps[i]? = some P → fs[i]? = some f → CT prog w K (compEnvC scope cs C env) r ((x, .imm P) :: freeOf scope ρ) ifs f.isSome)
    (helt : ∀ (cs : List (Str × Addr)) (C : Addr) (i : Nat) (P P' : HV), Ps[i]? = some P → fs[i]? = some (some P') → Ev prog w K (compEnvC scope cs C env) r ((x, .imm P) :: freeOf scope ρ) elt P'.w)
    (hsw : swapsWith (.ListComp elt [⟨.Name x px, iter, ifs, 0⟩] scope pos) (some (.Name y py)) spos.line env = pure true := by rfl)
    (hs : ∀ x, foldedSetIterable iter env x = pure x := by intro _; rfl) :
    ExS prog w K env r ρ (.Assign [.Name y py] (.ListComp elt [⟨.Name x px, iter, ifs, 0⟩] scope pos) spos) (.next ((y, .imm (TList (fs.filterMap id))) :: ρ)) := by
  intro A s B X₀ W Q E R I c
  have S := I.sat
  have ⟨hX, m, cm, F, V⟩ := S
  have CS := compSt CO V
  rw [exec_Assign_Name_used _ _ _ _ hsw]
  refine wpAny_bind (wpAny_standAt (wpAny_bind ?_))
  show wpAny _ A (do let _ ← comprehension (.ListComp elt [⟨.Name x px, iter, ifs, 0⟩] scope pos) scope env _ (newList []) false (eval iter env) (some (assign (.Name y py) env))) _ _ s
  refine wpAny_bind (wpAny_mono (wpAny_comprehension_free (use := some (assign (.Name y py) env)) (Q := fun _ s' => Q .next s') rfl hs CS.clos CO.kind CO.names (hit A s _ _ E R I.subK S fun it h' tk k₁ T => ?_)) (fun _ s' hq => wpAny_pure (wpAny_pure hq)) fun _ _ e => e)
  obtain ⟨T⟩ := T
  refine comp_block (RR := fun acc C => compPost (model prog w) A E (some (assign (.Name y py) env)) (fun _ s' => Q .next s') acc C) R C.kind CO I.subK S CS k₁ hlen hsz T htest helt ?_
  intro D Cc H tk' m' ys hD hC hDC hn hkeep hpl hys
  have hC0 : s.heap.get? Cc = none := by
    cases e : s.heap.get? Cc with
    | none => rfl
    | some o => have := k₁ _ _ e; rw [hC] at this; cases this
  have hD0 : s.heap.get? D = none := by
    cases e : s.heap.get? D with
    | none => rfl
    | some o => have := k₁ _ _ e; rw [hD] at this; cases this
  have I₁ := I.keeps hkeep
  obtain ⟨n, hD'⟩ := hpl
  have pD : (TList (fs.filterMap id)).p (fun b => X₀ b ∨ W b ∨ b = Cc) H (.ref D) := ⟨⟨D, rfl, fun q => by
      rcases q with q | q | q
      · exact notIn hX hD0 (.inl q)
      · exact notIn hX hD0 (.inr q)
      · exact hDC q⟩, D, ys, n, rfl, hD', hys.imp fun P u hu => P.refr (fun b q => .inl (by
      rcases q with q | q | q
      · exact .inl (.inl q)
      · exact .inl (.inr q)
      · exact .inr (.inl q))) hu⟩
  show wpAny _ A (assign (.Name y py) env (.ref D)) _ _ _
  have nWC : ¬ W Cc := fun q => by have := I.live Cc q; rw [hC0] at this; cases this
  have pD0 : (TList (fs.filterMap id)).p (fun b => X₀ b ∨ W b) H (.ref D) := (TList (fs.filterMap id)).refr (fun b q => .inl (q.elim .inl fun q => .inr (.inl q))) pD
  have I₂ : Inv env K (Bmax W H) (fun b => X₀ b ∨ b = Cc) W ρ H := by
    have IM := I₁.max
    obtain ⟨m1, cm1, F1, V1, O1⟩ := I.body
    refine ⟨IM.kb, IM.sub, fun b q => ?_, IM.off, IM.live, IM.wl, IM.wc, IM.apart, IM.coff, m1, cm1, F1.keeps hkeep, (V1.refr (X' := fun b => (X₀ b ∨ b = Cc) ∨ W b) fun b q => ?_).keeps hkeep, O1⟩
    · rcases q with q | rfl
      · exact IM.dom b q
      · obtain ⟨o, _, _, e, _⟩ := hn
        exact ⟨liveAt e, nWC⟩
    · rcases q with (q | rfl) | q
      · exact .inl (.inl q)
      · exact .inr hC0
      · exact .inl (.inr q)
  have pD1 : (TList (fs.filterMap id)).p (fun b => (X₀ b ∨ b = Cc) ∨ W b) H (.ref D) := (TList (fs.filterMap id)).refr (fun b q => .inl (by
    rcases q with (q | q) | q
    · exact .inl q
    · exact .inr (.inr q)
    · exact .inr (.inl q))) pD
  refine wpAny_assign_Name (bind_imm (s := { s with heap := H, toks := tk' }) I₂ C pD1 fun h₂ tk₂ I₃ k₃ => ?_)
  refine ⟨m', hn.at' fun o e => k₃ _ o nWC e, fun h₃ hs₃ => ?_⟩
  have I₃' : Inv env K (Bmax W H) (fun b => X₀ b ∨ b ∈ [Cc]) W ((y, .imm (TList (fs.filterMap id))) :: ρ) h₂ := by
    have e : (fun b => X₀ b ∨ b ∈ [Cc]) = fun b => X₀ b ∨ b = Cc := by funext b; simp
    rw [e]; exact I₃
  have I₄ := I₃'.gone (B := B) (h' := h₃) (fun b o hb e => hs₃.extBut b o (fun z => hb (by simp [z])) e) I.kb (fun a o e => by
    have nWa : ¬ W a := fun q => by rw [I.off a q] at e; cases e
    have e1 := I.sub a o e
    exact hs₃.extBut a o (fun z => by subst z; rw [hC0] at e1; cases e1) (k₃ a o nWa (hkeep a o e1))) (fun b q hb => by simp at hb; subst hb; have := (I.dom _ q).1; rw [hC0] at this; cases this) I.off
    (fun n c hc hb => by
      simp at hb; subst hb
      obtain ⟨o, q, _⟩ := F.cell n _ hc
      rw [hC0] at q; cases q)
  exact c .next h₃ tk₂ ⟨rfl, W, I₄⟩

/-- x[k] += e, a dict -/
theorem exs_augput {κ : Type} [DecidableEq κ] {knd : KeyKind prog w κ} {x y : Str} {px py spos pos : Pos} {e : Expr} {op : Operator} {kvs : List (κ × HV)} {Pk : HV} {k : κ} {P P₂ P₃ : HV} (hk : env.scope.kind = .function) (hx : ρ.lookup x = some (.ownD knd kvs)) (hy : ρ.lookup y = some (.imm Pk))
    (hkey : IsKey knd Pk.w k) (hg : dget kvs k = some P) (he : Ev prog w K env r ρ e P₂) (hsz : kvs.length ≤ sizeLine)
    (h : ∀ X hh va vb, P.p X hh va → P₂.p X hh vb → Vl prog w K r X hh (inplaceOp op va vb) (fun v h' => P₃.p X h' v))
    (hd : (x == ("__debug__" : Str)) = false := by decide) (hn : (x == ("__classdict__" : Str)) = false := by decide) (hd2 : (y == ("__debug__" : Str)) = false := by decide) (hn2 : (y == ("__classdict__" : Str)) = false := by decide) :
    ExS prog w K env r ρ (.AugAssign (.Subscript (.Name x px) (.Name y py) spos) op e pos) (.next ((x, .ownD knd (dput kvs k P₃)) :: ρ)) := by
  intro A s B X₀ W Q E R I c
  refine wpAny_AugAssign_Subscript (own_var I hk hx rfl (fun a hWa hva pa => ?_) hd hn)
  refine ev_var hk hy hd2 hn2 A s _ _ E R I.subK I.sat fun iv h₁ t₁ k₁ pi => ?_
  have I₁ := I.keeps k₁
  obtain ⟨a', us, e1, hsy, hdo, hit⟩ := pa
  cases e1
  obtain ⟨old, hold, hpold⟩ := (rel_get (R := fun (P : HV) v => P.p (fun b => X₀ b ∨ W b) s.heap v) hit k).1 P hg
  refine wpAny_getItem_of (hkey _ _ _ pi) (dictOf_at hdo (k₁ _)).mapOf (valueAt_dget.trans hold) ?_
  refine he A _ _ _ E R I₁.subK I₁.sat fun v h₂ t₂ k₂ pv => ?_
  have I₂ := I₁.keeps k₂
  refine h _ h₂ old v (P.frame (fun b o _ q => k₂ b o (k₁ b o q)) hpold) pv A _ _ E R rfl I₂.subK I₂.sat.1 fun u h₃ t₃ k₃ pu => ?_
  have I₃ := I₂.keeps k₃
  have k₁₃ : ∀ b o, s.heap.get? b = some o → h₃.get? b = some o := fun b o q => k₃ b o (k₂ b o (k₁ b o q))
  refine wpAny_setItem_pairs (k := k) (hkey _ _ _ (Pk.frame (fun b o _ q => k₃ b o (k₂ b o q)) pi)) (dictOf_at hdo (k₁₃ _)) (fun h₄ hd₄ hs₄ => ?_) (by have := hit.length; lia)
  have kX : ∀ b o, ¬ (X₀ b ∨ W b) → h₃.get? b = some o → h₄.get? b = some o := fun b o hb e => hs₄.extBut b o (fun q => hb (.inr (q ▸ hWa))) e
  have ⟨o, _, _, hg', _⟩ := hd₄
  refine c .next h₄ _ ⟨rfl, W, I₃.poke hx rfl rfl (hva h₃ k₁₃) hs₄ ⟨a, _, rfl, hsy, hd₄, ?_⟩ (liveAt hg')⟩
  rw [stored_dput]
  exact rel_put (R := fun (P : HV) v => P.p (fun b => X₀ b ∨ W b) h₄ v) (P₃.frame kX pu) k (hit.imp fun x y hu => ⟨hu.1, x.2.frame kX (x.2.frame (fun b o _ q => k₁₃ b o q) hu.2)⟩)

theorem wpAny_list_reverse_plain {A : Around} {E : Value → Shared → Prop} {s : Shared} {l : Addr} {items : Array Value} {Q : Value → Shared → Prop} (hl : s.heap.PlainList l items)
    (hQ : ∀ h', h'.PlainList l items.reverse → Heap.SameBut l s.heap h' → Q .none { s with heap := h' }) (hsz : items.size ≤ sizeLine) :
    wpAny (model prog w) A (call (.builtin "list.reverse") [.ref l]) Q E s := by
  obtain ⟨n, ho⟩ := hl
  refine call_meets F.slot_list_reverse ⟨_, ho, rfl⟩ F.entry_list_reverse (F.args_list_reverse_1 _) (AutoListH.list_reverse_list_0 l items n hsz) ⟨ho, ?_⟩
  exact hQ _ ⟨_, (Heap.get?_update_self _ ho rfl).trans rfl⟩ (Heap.SameBut.update ..)

/-- x.reverse() -/
theorem exs_reverse {x : Str} {px apos pos spos : Pos} {Ps : List HV} (hk : env.scope.kind = .function) (hx : ρ.lookup x = some (.ownS "list" Ps)) (hsz : Ps.length ≤ sizeLine)
    (hi : interactive env = false := by rfl)
    (hd : (x == ("__debug__" : Str)) = false := by decide) (hn : (x == ("__classdict__" : Str)) = false := by decide) (hline : (apos.endLine == pos.line) = true := by rfl) :
    ExS prog w K env r ρ (.Expr (.Call (.Attribute (.Name x px) "reverse" apos) [] [] pos) spos) (.next ((x, .ownS "list" Ps.reverse) :: ρ)) := by
  intro A s B X₀ W Q E R I c
  refine wpAny_Expr (wpAny_Call_method rfl rfl hline F.plainAttrs_list F.slot_list_reverse F.type_list_reverse (own_var I hk hx rfl (fun a hWa hva pa => ?_) hd hn)) hi
  obtain ⟨a', vs, n, e1, ho, hit⟩ := pa
  cases e1
  refine ⟨⟨_, ho, rfl⟩, fun b e => by cases e; exact ⟨_, ho, rfl⟩, ?_⟩
  refine Calls.callWith_builtin rfl (evalArgs_trees rfl (Calls.spliced_nil ?_))
  have hsz' : vs.size ≤ sizeLine := by have := hit.length; simp at this; lia
  refine wpAny_list_reverse_plain (⟨n, ho⟩ : s.heap.PlainList a vs) (fun h₂ hl₂ hs₂ => ?_) hsz'
  obtain ⟨n₂, ho₂⟩ := hl₂
  have kX : ∀ b o, ¬ (X₀ b ∨ W b) → s.heap.get? b = some o → h₂.get? b = some o := fun b o hb e => hs₂.extBut b o (fun q => hb (.inr (q ▸ hWa))) e
  refine c .next h₂ _ ⟨rfl, W, I.poke hx rfl rfl (hva s.heap fun _ _ q => q) hs₂ ⟨a, _, n₂, rfl, ho₂, ?_⟩ (liveAt ho₂)⟩
  rw [Array.toList_reverse]
  exact (hit.imp fun P u hu => P.frame kX hu).reverse
end
end Mine

namespace Mine
open PySem PySem.Calls PySem.W

/-! ### frames below -/
noncomputable def FrameOk (h : Heap) (e : Env) : Prop := e.scope.kind ≠ .module ∧ ∃ L o es ep, e.frame = some L ∧ h.get? L = some o ∧ o.data = .dict es ep
noncomputable def FZ (env : Env) (outer : List Env) (Z : List Addr) (A : Around) (h : Heap) : Prop := A.frames = some (env :: outer) ∧ outer.filterMap (·.frame) = Z ∧ ∀ e ∈ outer, FrameOk h e
theorem FZ.slots {env : Env} {outer : List Env} {Z : List Addr} {A : Around} {h h' : Heap} (x : FZ env outer Z A h) (k : SlotKeep Z h h') : FZ env outer Z A h' := by
  obtain ⟨h1, h2, h3⟩ := x
  refine ⟨h1, h2, fun e he => ?_⟩
  obtain ⟨q, L, o, es, ep, hf, ho, hd⟩ := h3 e he
  obtain ⟨sl, hs⟩ := k L (h2 ▸ List.mem_filterMap.mpr ⟨e, he, hf⟩) o ho
  exact ⟨q, L, _, es, ep, hf, hs, hd⟩
theorem funFrames_hid {h : Heap} {as : List Addr} : ∀ {l : List Env}, (∀ e ∈ l, FrameOk h e) → (∀ e ∈ l, ∀ L, e.frame = some L → L ∈ as) → h.FunFrames (hideAll h as) l
  | [], _, _ => trivial
  | e :: l, x, y => by
    obtain ⟨q, L, o, es, ep, hf, ho, hd⟩ := x e (.head _)
    exact ⟨q, ⟨L, o, hf, hideAll_none _ (y e (.head _) L hf), ho, fun vs z => by rw [hd] at z; cases z⟩, funFrames_hid (fun e he => x e (.tail _ he)) fun e he => y e (.tail _ he)⟩
theorem funFrames_same {base h h' : Heap} (k : ∀ b o, h.get? b = some o → h'.get? b = some o) {l : List Env} (x : h.FunFrames base l) : h'.FunFrames base l := x.of_keeps fun b o e _ => ⟨o, k b o e, rfl⟩

/-- an own exception's class -/
noncomputable def ErrAt (h : Heap) (C : Addr) : Prop := ∃ (nm q : Str) (N : Addr) (bs bm bmB : List Value) (hdct : Bool) (sn : List Str) (sub : List Value) (ab : Bool) (col : Option Bool) (dd : Option Addr) (k0 k1 k2 k3 k5 : Option Value) (B newId initId : String) (mN : Str → Option Value),
  ExcBaseFacts B newId initId bmB ∧ h.get? C = some (excClassObj nm q C N bs bm hdct sn sub ab col dd k0 k1 k2 k3 k5 newId) ∧ h.Ns N mN ∧ mN "__init__" = none ∧ OwnTail h bmB bm ∧ bm.contains (.type "BaseException") = true

section
variable (prog : Program) (w : World) (K : PM)
noncomputable def EvR (env : Env) (r : Nat) (ρ : Ctx) (e : Expr) (C : Addr) : Prop :=
  ∀ (A : Around) (outer : List Env) (s : Shared) (X : XS) (Q : Value → Shared → Prop) (E : Value → Shared → Prop) (base : Heap), Room A r → A.frames = some outer → s.heap.FunFrames base outer → base.StaysIn s.heap → Sub K s.heap → Sat env ρ X s.heap →
    (∀ h' x a0 tk, Heap.FlyingW base outer x (.ref C) a0 h' → s.heap.UpToSlots h' → E (.ref x) { s with heap := h', toks := tk }) → wpAny (model prog w) A (eval e env) Q E s
noncomputable def FnR (a : Addr) (r : Nat) (Ps : List WV) (C : Addr) : Prop :=
  ∀ (A : Around) (outer : List Env) (s : Shared) (X : XS) (vs : List Value) (Q : Value → Shared → Prop) (E : Value → Shared → Prop) (base : Heap), Room A r → A.frames = some outer → s.heap.FunFrames base outer → base.StaysIn s.heap → Sub K s.heap →
    (∀ b, X b → (s.heap.get? b).isSome = true) → All2 (fun (P : WV) v => P.p X s.heap v) Ps vs →
    (∀ h' x a0 tk, Heap.FlyingW base outer x (.ref C) a0 h' → s.heap.UpToSlots h' → E (.ref x) { s with heap := h', toks := tk }) → wpAny (model prog w) A (call (.ref a) vs) Q E s
noncomputable def ExR (env : Env) (r : Nat) (ρ : Ctx) (ss : List Stmt) (C : Addr) : Prop :=
  ∀ (A : Around) (s : Shared) (B : PM) (X₀ W : XS) (Q : Flow → Shared → Prop) (E : Value → Shared → Prop), Room A r → Inv env K B X₀ W ρ s.heap →
    (∀ h' h'' x args tk, Sub B h' → (∃ m, h'.Ns env.locals m) → Heap.MadeExcOf h' h'' x (.ref C) args → E (.ref x) { s with heap := h'', toks := tk }) → wpAny (model prog w) A (execs ss env) Q E s
end

section
variable {prog : Program} {w : World} {K : PM} {gl : List (Str × Value)} {env : Env} {r : Nat} {ρ : Ctx} {C : Addr}

theorem exr_cons {st : Stmt} {ss : List Stmt} {ρ' : Ctx} (h : ExS prog w K env r ρ st (.next ρ')) (h2 : ExR prog w K env r ρ' ss C) : ExR prog w K env r ρ (st :: ss) C := by
  intro A s B X₀ W Q E R I c
  refine wpAny_execs_cons (h A s B X₀ W _ E R I ?_)
  rintro f h' tk ⟨rfl, W', I'⟩
  exact h2 A _ B X₀ W' Q E R I' c
theorem exr_if {t : Expr} {a b : List Stmt} {pos : Pos} {ss : List Stmt} (ht : Tst prog w K env r ρ t true) (ha : ExR prog w K env r ρ a C) : ExR prog w K env r ρ (.If t a b pos :: ss) C := by
  intro A s B X₀ W Q E R I c
  refine wpAny_execs_cons (wpAny_If (ht A s _ _ E R I.subK I.sat fun h' tk k => ?_))
  exact ha A { s with heap := h', toks := tk } B X₀ W _ E R (I.keeps k) c
theorem exr_raise {f : Str} {np cpos pos : Pos} {args : List Expr} {ss : List Stmt} {Ps : List WV} (kf : KF K gl) (hgl : env.globals = mainGlobals) (hk : env.scope.kind = .function) (hC : ∀ h, Sub K h → ErrAt h C) (hg : gl.lookup f = some (.ref C))
    (hargs : EvL prog w K env r ρ cpos args Ps) (hlen : Ps.length ≤ 100)
    (hx : env.kindOf f = some .globalImplicit := by rfl) (hd : (f == ("__debug__" : Str)) = false := by decide) : ExR prog w K env r ρ (.Raise (some (.Call (.Name f np) args [] cpos)) none pos :: ss) C := by
  intro A s B X₀ W Q E R I c
  obtain ⟨nm', q', N', bs', bm', bmB', hdct', sn', sub', ab', col', dd', k0', k1', k2', k3', k5', Bn', newId', initId', mN', F', hC1, hN1, hni1, hT1, hbase1⟩ := hC _ I.subK
  refine wpAny_execs_cons (wpAny_Raise_call_subT (C := C) (nm := nm') (q := q') (N := N') (bs := bs') (bm := bm') (hdct := hdct') (sn := sn') (sub := sub') (ab := ab') (col := col') (dd := dd') (k0 := k0') (k1 := k1') (k2 := k2') (k3 := k3') (k5 := k5') F' hbase1 R.hh hargs.plain hni1 ?_)
  obtain ⟨mg, hmg, hval, _⟩ := kf.glob _ I.subK
  refine Calls.Name_function_global hk hx (Calls.loadGlobal_global (hgl ▸ hmg) (hval f _ hg) ⟨rfl, ?_⟩) hd
  refine evalArgs_trees hargs.plain (hargs.run A s _ _ _ R I.subK I.sat fun vs h' tk kp pv => ?_)
  have I' := I.keeps kp
  have hn : h'.Ns N' mN' := hN1.keeps kp
  refine ⟨rfl, ?_, kp _ _ hC1, hn, hT1.keeps kp, fun h'' e hm => ?_⟩
  · have := pv.length; rw [sizeLine_eq]; show vs.length ≤ _; lia
  · obtain ⟨m, cm, Fm', _⟩ := I'.body
    exact c h' h'' e vs tk I'.sub ⟨m, Fm'.ns⟩ hm

theorem fnr_of_body {a : Addr} {o : Obj} {fd : FuncData} {body : List Stmt} {ps : List (Str × HV)} (kf : KF K gl) (ho : K a = some o) (hdata : o.data = .func fd) (hcd : ∀ h, Sub K h → h.CodeRec fd.code fd.qualname)
    (hbody : fd.body = .stmts body) (hclo : fd.closure = [])
    (hbind : ∀ vs : List Value, vs.length = ps.length → bindArgs fd ⟨vs, []⟩ = pure ((ps.map (·.1)).zip vs))
    (hst : ∀ L p, p ∈ ps → CanStore (callEnvC fd L a) p.1)
    (h : ∀ L, ExR prog w K (callEnvC fd L a) r (ps.map fun p => (p.1, Ent.imm p.2)).reverse body C)
    (hco : fd.scope.isCoroutine = false := by rfl) (hgen : fd.scope.isGenerator = false := by rfl) (hk : fd.scope.kind = .function := by rfl) :
    FnR prog w K a (r + 1) (ps.map fun p => p.2.w) C := by
  intro A outer s X vs Q E base R hfr hfun hbs kK hX hv c
  have hlen : vs.length = ps.length := by have := hv.length; simpa using this.symm
  have hv' : All2 (fun (P : HV) v => P.p X s.heap v) (ps.map (·.2)) vs := by
    have : ps.map (fun p => p.2.w) = (ps.map (·.2)).map HV.w := by simp [List.map_map, Function.comp_def]
    rw [this] at hv
    exact All2.map_left.mp hv
  refine wpAny_call (codeAny_call_cells (by have := R.dep; lia) (kK a o ho) hdata (kf.nolimit _ kK) (hcd _ kK) hbody (hbind vs hlen) hclo ?_ (fun s₁ x => ?_) hco hgen hk)
  · rintro ⟨n, v⟩ hm
    have hn := (List.of_mem_zip hm).1
    obtain ⟨p, hp, e⟩ := List.mem_map.mp hn
    have := (hst s.heap.objs.size p hp).ok
    rw [show p.1 = n from e] at this
    exact this
  · obtain ⟨hh, tk, rfl⟩ := x.toInCall.same
    let env := callEnvC fd s.heap.objs.size a
    have cellAbove : ∀ n c, env.cells.lookup n = some c → s.heap.objs.size < c := fun n c hc => x.above n c (mem_of_lookup hc)
    refine h s.heap.objs.size (A.deeper env) { s with heap := hh, toks := tk } (fun b => s.heap.get? b) X (fun b => b = env.locals ∨ ∃ n, env.cells.lookup n = some b) _ _ R.deeper ?_ ?_
    · refine ⟨kK, x.toInCall.keep, fun b q => ⟨there_keeps hX x.toInCall.keep b q, fun z => ?_⟩, ?_, ?_, .inl rfl, fun n c hc _ => .inr ⟨n, hc⟩, fun n n' c h1 h2 => name_of_addr x.apart (mem_of_lookup h1) (mem_of_lookup h2), fun n c hc => Nat.ne_of_gt (cellAbove n c hc), _, _, ⟨x.toInCall.ns, x.cell⟩, ?_, ?_⟩
      · have := hX b q
        rcases z with rfl | ⟨n, hc⟩
        · rw [show s.heap.get? env.locals = none from freshNone _] at this; cases this
        · rw [Heap.get?_none_of_le (Nat.le_of_lt (cellAbove n b hc))] at this; cases this
      · rintro b (rfl | ⟨n, hc⟩)
        · exact freshNone _
        · exact Heap.get?_none_of_le (Nat.le_of_lt (cellAbove n b hc))
      · rintro b (rfl | ⟨n, hc⟩)
        · obtain ⟨o, _, _, e, _⟩ := x.toInCall.ns; exact liveAt e
        · obtain ⟨o, e, _⟩ := x.cell n b hc; exact liveAt e
      · intro y e hy
        obtain ⟨v, hl, hp⟩ := lookup_all2 hv' hy
        refine ⟨v, ?_, ?_⟩
        · rw [valBind _ _ _ _ (fun p hp => ?_), hl]
          have hn := (List.of_mem_zip (show (p.1, p.2) ∈ _ from hp)).1
          obtain ⟨q, hq, e⟩ := List.mem_map.mp hn
          exact e ▸ hst s.heap.objs.size q hq
        · refine e.w.mono x.toInCall.keep (Ent.refr hp fun b q => ?_)
          rcases q with q | rfl | ⟨n, hc⟩
          · exact .inl q
          · exact .inr (freshNone _)
          · exact .inr (Heap.get?_none_of_le (Nat.le_of_lt (cellAbove n b hc)))
      · have noOwn : ∀ y e, (ps.map fun p => (p.1, Ent.imm p.2)).reverse.lookup y = some e → e.isOwn = true → False := by
          intro y e hy ho'
          obtain ⟨p, hp, hpe⟩ := List.mem_map.mp (List.mem_reverse.mp (mem_of_lookup' hy))
          cases hpe; cases ho'
        exact ⟨fun y e hy ho' => (noOwn y e hy ho').elim, fun y z ey ez b _ hy _ ho' _ _ => (noOwn y ey hy ho').elim⟩
    · rintro h' h'' e args tk' hs ⟨m, hns⟩ hm
      have hfun' : h'.FunFrames base (env :: outer) := by
        obtain ⟨oL, es, ep, hoL, hdL, _⟩ := hns
        refine ⟨by show fd.scope.kind ≠ _; rw [hk]; decide, ⟨env.locals, oL, rfl, ?_, hoL, fun vs z => by rw [hdL] at z; cases z⟩, funFrames_same hs hfun⟩
        cases q : base.get? env.locals with
        | none => rfl
        | some o => have := hbs _ o q; rw [show s.heap.get? env.locals = none from freshNone _] at this; cases this
      refine wpAny_leaves_madeW (s := { s with heap := h'', toks := tk' }) (h := h') (base := base) (outer := outer) (Around.frames_deeper hfr) rfl (fun b o q => hs b o (hbs b o q)) hfun' hm fun h3 t hfl htup _ hsl => ?_
      exact c h3 e _ tk' hfl ((Heap.UpToSlots.of_keeps fun b o q => hm.keeps b o (hs b o q)).trans hsl)

theorem evr_fn {f : Str} {p pos : Pos} {args : List Expr} {a : Addr} {o : Obj} {fd : FuncData} {Ps : List WV} (kf : KF K gl) (hgl : env.globals = mainGlobals) (hk : env.scope.kind = .function)
    (hg : gl.lookup f = some (.ref a)) (ho : K a = some o) (hd : o.data = .func fd)
    (hargs : EvL prog w K env r ρ pos args Ps) (h : FnR prog w K a r Ps C)
    (hx : env.kindOf f = some .globalImplicit := by rfl) (hdb : (f == ("__debug__" : Str)) = false := by decide) :
    EvR prog w K env r ρ (.Call (.Name f p) args [] pos) C := by
  intro A outer s X Q E base R hfr hfun hbs k S c
  show wpAny _ A (do callWith pos (← eval (.Name f p) env) [] (backTo pos (starEach args env)) (backToKw pos (keywordEach [] env))) Q E s
  obtain ⟨mg, hmg, hval, _⟩ := kf.glob _ k
  refine wpAny_bind (Calls.Name_function_global hk hx (Calls.loadGlobal_global (hgl ▸ hmg) (hval f _ hg) ?_) hdb)
  refine Calls.callWith_function (o := o) (fd := fd) (evalArgs_trees hargs.plain (hargs.run A s X _ _ R k S fun vs h' tk kp pv => ⟨⟨(k.keeps kp) _ _ ho, hd⟩, ?_⟩))
  exact h A outer _ X vs Q E base R hfr (funFrames_same kp hfun) (fun b o q => kp b o (hbs b o q)) (k.keeps kp) (there_keeps S.1 kp) pv fun h'' x a0 tk' hfl hsl => c h'' x a0 tk' hfl ((Heap.UpToSlots.of_keeps kp).trans hsl)
end
end Mine

namespace Mine
open PySem PySem.Calls PySem.W

section
variable {prog : Program} {w : World} {K : PM} {gl : List (Str × Value)} {env : Env} {r : Nat} {ρ : Ctx} {C : Addr}

theorem Inv.slots {B : PM} {X₀ W : XS} {h h' : Heap} {Z : List Addr} (I : Inv env K B X₀ W ρ h) (hZ : ∀ L ∈ Z, X₀ L ∧ B L = none) (k : ∀ b o, b ≠ env.locals → b ∉ Z → h.get? b = some o → h'.get? b = some o)
    (ks : SlotKeep (env.locals :: Z) h h') (hdict : ∀ L ∈ Z, ∃ o es ep, h.get? L = some o ∧ o.data = .dict es ep) : Inv env K B X₀ W ρ h' := by
  obtain ⟨m, cm, F, V, O⟩ := I.body
  have kX : ∀ b o, ¬ (X₀ b ∨ W b) → h.get? b = some o → h'.get? b = some o := fun b o hb e => k b o (fun z => hb (.inr (z ▸ I.wl))) (fun z => hb (.inl (hZ b z).1)) e
  have alive : ∀ b, (h.get? b).isSome = true → (h'.get? b).isSome = true := fun b q => by
    by_cases h1 : b ∈ env.locals :: Z
    · exact ks.live h1 q
    · obtain ⟨o, ho⟩ := Option.isSome_iff_exists.mp q
      exact liveAt (k b o (fun z => h1 (z ▸ .head _)) (fun z => h1 (.tail _ z)) ho)
  refine ⟨I.kb, fun a o e => k a o (fun z => ?_) (fun z => ?_) (I.sub a o e), fun b q => ⟨alive b (I.dom b q).1, (I.dom b q).2⟩, I.off, fun b q => alive b (I.live b q), I.wl, I.wc, I.apart, I.coff, m, cm, ⟨?_, fun n c hc => ?_⟩, fun x e hx => ?_, O⟩
  · subst z; rw [I.off _ I.wl] at e; cases e
  · rw [(hZ a z).2] at e; cases e
  · obtain ⟨o, es, ep, ho, hd, r⟩ := F.ns
    obtain ⟨sl, hs⟩ := ks _ (.head _) o ho
    exact ⟨_, es, ep, hs, hd, r⟩
  · obtain ⟨o, q1, q2⟩ := F.cell n c hc
    refine ⟨o, k c o (I.coff n c hc) (fun z => ?_) q1, q2⟩
    obtain ⟨o', es, ep, e1, e2⟩ := hdict c z
    rw [q1] at e1; cases e1
    rw [q2] at e2; cases e2
  · obtain ⟨v, hv, hp⟩ := V x e hx
    refine ⟨v, hv, ?_⟩
    cases hown : e.isOwn with
    | false =>
      cases e with
      | imm R => exact R.frame kX hp
      | ownS _ _ => cases hown
      | ownD _ _ => cases hown
    | true =>
      obtain ⟨a, ha, hWa, hal, _⟩ := O.inW x e hx hown
      rw [hv] at ha; cases ha
      exact own_keep hown hp (fun o q => k a o hal (fun z => (I.dom a (hZ a z).1).2 hWa) q) kX

theorem exsg_try_ok {Z : List Addr} {Φ : Around → Heap → Prop} {body : List Stmt} {h₀ : ExceptHandler} {hs : List ExceptHandler} {pos : Pos} {ρ' : Ctx} (h : Ex prog w K env r ρ body (.next ρ')) : ExSG prog w K Z Φ env r ρ (.Try body (h₀ :: hs) [] [] pos) (.next ρ') := by
  refine exsg_of fun A s B X₀ W Q E R I c => ?_
  refine wpAny_Try_except (h A s B X₀ W _ _ R I ?_)
  rintro f h' tk ⟨rfl, W', I'⟩
  exact wpAny_execs_nil (c .next h' tk ⟨rfl, W', I'⟩)

theorem exsg_try_err {Z : List Addr} {outer : List Env} {x en : Str} {px px' np cp apos apos' hpos pos : Pos} {kk : Nat} {call : Expr} {hs : List ExceptHandler} (kf : KF K gl) (hgl : env.globals = mainGlobals) (hk : env.scope.kind = .function) (hfrm : env.frame = some env.locals)
    (CS : CanStore env x) (hE : ∀ h, Sub K h → ErrAt h C) (hg : gl.lookup en = some (.ref C)) (hcall : EvR prog w K env r ρ call C)
    (hs1 : swapsWith call (some (.Name x px)) apos.line env = pure false := by rfl) (hx : env.kindOf en = some .globalImplicit := by rfl) (hdb : (en == ("__debug__" : Str)) = false := by decide) :
    ExSG prog w K Z (FZ env outer Z) env r ρ (.Try [.Assign [.Name x px] call apos] (.ExceptHandler (some (.Name en np)) none [.Assign [.Name x px'] (.Constant .none kk cp) apos'] hpos :: hs) [] [] pos) (.next ((x, .imm TNone) :: ρ)) := by
  intro A s B X₀ W Q E R φ I hZ c
  obtain ⟨hfr, hz, hok⟩ := φ
  obtain ⟨m, cm, F, _⟩ := I.body
  have hKZ : ∀ a o, K a = some o → a ∉ env.locals :: Z := fun a o e q => by
    rcases List.mem_cons.mp q with q | q
    · subst q; have := I.kb _ o e; rw [I.off _ I.wl] at this; cases this
    · have := I.kb _ o e; rw [(hZ a q).2] at this; cases this
  have hframes : ∀ e ∈ env :: outer, FrameOk s.heap e := by
    intro e he
    rcases List.mem_cons.mp he with rfl | he
    · obtain ⟨o, es, ep, ho, hd, _⟩ := F.ns
      exact ⟨by rw [hk]; decide, _, o, es, ep, hfrm, ho, hd⟩
    · exact hok e he
  have hin : ∀ e ∈ env :: outer, ∀ L, e.frame = some L → L ∈ env.locals :: Z := by
    intro e he L hL
    rcases List.mem_cons.mp he with rfl | he
    · rw [hfrm] at hL; cases hL; exact .head _
    · exact .tail _ (hz ▸ List.mem_filterMap.mpr ⟨e, he, hL⟩)
  have hdict : ∀ L ∈ Z, ∃ o es ep, s.heap.get? L = some o ∧ o.data = .dict es ep := by
    intro L hL
    rw [← hz] at hL
    obtain ⟨e, he, hf⟩ := List.mem_filterMap.mp hL
    obtain ⟨_, L', o, es, ep, hf', ho, hd⟩ := hok e he
    rw [hf] at hf'; cases hf'
    exact ⟨o, es, ep, ho, hd⟩
  have hdict' : ∀ L ∈ env.locals :: Z, ∀ o, s.heap.get? L = some o → ∀ vs, o.data ≠ .fields vs := by
    intro L hL o ho vs z
    rcases List.mem_cons.mp hL with rfl | hL
    · obtain ⟨o', es, ep, ho', hd, _⟩ := F.ns
      rw [ho] at ho'; cases ho'; rw [z] at hd; cases hd
    · obtain ⟨o', es, ep, ho', hd⟩ := hdict L hL
      rw [ho] at ho'; cases ho'; rw [z] at hd; cases hd
  have baseGet : ∀ b o, s.heap.get? b = some o → b ∉ env.locals :: Z → (hideAll s.heap (env.locals :: Z)).get? b = some o := fun b o e q => hideAll_get _ e q
  refine wpAny_Try_except (wpAny_execs_cons (wpAny_Assign_Name (hcall A (env :: outer) s _ _ _ (hideAll s.heap (env.locals :: Z)) R hfr (funFrames_hid hframes hin) (fun b o q => of_hideAll _ q) I.subK I.sat fun h₁ e a0 tk hfl hsl => ?_) hs1))
  refine wpAny_looks_onW (s := { s with heap := h₁, toks := tk }) hfr hfrm hfl fun h₄ hheld₄ hsm₄ => ?_
  refine wpAny_landsW (s := { s with heap := h₄, toks := tk }) hheld₄ fun h₅ hfl₅ hsm₅ => ?_
  have K₅ : Sub K h₅ := fun a o q => hfl₅.1 a o (baseGet a o (I.subK a o q) (hKZ a o q))
  obtain ⟨nm', q', N', bs', bm', bmB', hdct', sn', sub', ab', col', dd', k0', k1', k2', k3', k5', Bn', newId', initId', mN', F', hC1, hN1, hni1, hT1, hbase1⟩ := hE _ K₅
  obtain ⟨mg, hmg, hval, _⟩ := kf.glob _ K₅
  obtain ⟨ob, hob, hobc⟩ := hfl₅.there
  refine wpAny_handleBy_cons (codeAny_handlers_test (Calls.Name_function_global (s := { s with heap := h₅, toks := tk }) hk hx (Calls.loadGlobal_global (hgl ▸ hmg) (hval en _ hg) ?_) hdb)) (by intro q; cases q)
  refine wpAny_excMatches_sub_self hC1 hob hobc hbase1 (codeAny_handlers_suite ?_)
  refine PyProof.Rows.lands_againW (s := { s with heap := h₅, toks := tk }) hfl₅ fun h₆ hfl₆ hsm₆ => ?_
  have hall : s.heap.UpToSlots h₆ := ((hsl.trans hsm₄).trans hsm₅).trans hsm₆
  have sk : SlotKeep (env.locals :: Z) s.heap h₆ := fun L hL o ho => hall L o ho (hdict' L hL o ho)
  have I₆ := I.slots hZ (fun b o h1 h2 q => hfl₆.1 b o (baseGet b o q (fun z => by rcases List.mem_cons.mp z with z | z; exact h1 z; exact h2 z))) sk hdict
  refine wpAny_execs_cons (wpAny_Assign_Name (wpAny_Constant_none (bind_imm (s := { s with heap := h₆, toks := tk }) (P := TNone) I₆ CS rfl fun h₇ tk₇ I₇ k₇ => ?_)))
  refine wpAny_execs_nil (c .next h₇ tk₇ ⟨rfl, W, I₇⟩ ((show SlotKeep Z s.heap h₆ from fun L hL => sk L (.tail _ hL)).trans (SlotKeep.of_keep fun L hL o q => k₇ L o (I₆.dom L (hZ L hL).1).2 q)))
end
end Mine

namespace Mine
open PySem PySem.Calls PySem.W

noncomputable def framesOf (outer : List Env) : List Addr := outer.filterMap (·.frame)
section
variable (prog : Program) (w : World) (K : PM)
/-- a def whose call may set the slots of the frames below -/
noncomputable def FnZ (a : Addr) (r : Nat) (Ps : List WV) (P : WV) : Prop :=
  ∀ (A : Around) (outer : List Env) (s : Shared) (X : XS) (vs : List Value) (Q : Value → Shared → Prop) (E : Value → Shared → Prop), Room A r → A.frames = some outer → (∀ e ∈ outer, FrameOk s.heap e) → (∀ L ∈ framesOf outer, X L ∧ K L = none) → Sub K s.heap →
    (∀ b, X b → (s.heap.get? b).isSome = true) → All2 (fun (P : WV) v => P.p X s.heap v) Ps vs →
    (∀ v h' tk, (∀ b o, b ∉ framesOf outer → s.heap.get? b = some o → h'.get? b = some o) → SlotKeep (framesOf outer) s.heap h' → P.p X h' v → Q v { s with heap := h', toks := tk }) → wpAny (model prog w) A (call (.ref a) vs) Q E s
noncomputable def EvG (Z : List Addr) (Φ : Around → Heap → Prop) (env : Env) (r : Nat) (ρ : Ctx) (e : Expr) (P : WV) : Prop :=
  ∀ (A : Around) (s : Shared) (B : PM) (X₀ W : XS) (Q : Value → Shared → Prop) (E : Value → Shared → Prop), Room A r → Φ A s.heap → Inv env K B X₀ W ρ s.heap → (∀ L ∈ Z, X₀ L ∧ B L = none) →
    (∀ v h' tk, Inv env K B X₀ W ρ h' → SlotKeep Z s.heap h' → P.p (fun b => X₀ b ∨ W b) h' v → Q v { s with heap := h', toks := tk }) → wpAny (model prog w) A (eval e env) Q E s
end

section
variable {prog : Program} {w : World} {K : PM} {gl : List (Str × Value)} {env : Env} {r : Nat} {ρ : Ctx} {Z : List Addr} {Φ : Around → Heap → Prop}

theorem exsg_assign {x : Str} {px pos : Pos} {e : Expr} {P : HV} (C : CanStore env x) (he : EvG prog w K Z Φ env r ρ e P) (hs : swapsWith e (some (.Name x px)) pos.line env = pure false := by rfl) :
    ExSG prog w K Z Φ env r ρ (.Assign [.Name x px] e pos) (.next ((x, .imm P) :: ρ)) := by
  intro A s B X₀ W Q E R φ I hZ c
  refine wpAny_Assign_Name (he A s B X₀ W _ E R φ I hZ fun v h' tk I' sk pv => ?_) hs
  exact bind_imm I' C pv fun h'' tk' I'' k'' => c .next h'' tk' ⟨rfl, W, I''⟩ (sk.trans (SlotKeep.of_keep fun L hL o e => k'' L o (I'.dom L (hZ L hL).1).2 e))
/-- a def that touches frames, called from the lowest one -/
theorem evg_fnz {f : Str} {p pos : Pos} {args : List Expr} {a : Addr} {o : Obj} {fd : FuncData} {Ps : List WV} {P : WV} (kf : KF K gl) (hgl : env.globals = mainGlobals) (hk : env.scope.kind = .function) (hfrm : env.frame = some env.locals)
    (hg : gl.lookup f = some (.ref a)) (ho : K a = some o) (hd : o.data = .func fd)
    (hargs : EvL prog w K env r ρ pos args Ps) (h : FnZ prog w K a r Ps P)
    (hx : env.kindOf f = some .globalImplicit := by rfl) (hdb : (f == ("__debug__" : Str)) = false := by decide) :
    EvG prog w K [] (fun A _ => A.frames = some [env]) env r ρ (.Call (.Name f p) args [] pos) P := by
  intro A s B X₀ W Q E R φ I hZ c
  show wpAny _ A (do callWith pos (← eval (.Name f p) env) [] (backTo pos (starEach args env)) (backToKw pos (keywordEach [] env))) Q E s
  obtain ⟨mg, hmg, hval, _⟩ := kf.glob _ I.subK
  refine wpAny_bind (Calls.Name_function_global hk hx (Calls.loadGlobal_global (hgl ▸ hmg) (hval f _ hg) ?_) hdb)
  refine Calls.callWith_function (o := o) (fd := fd) (evalArgs_trees hargs.plain (hargs.run A s _ _ _ R I.subK I.sat fun vs h' tk kp pv => ⟨⟨(I.subK.keeps kp) _ _ ho, hd⟩, ?_⟩))
  have I' := I.keeps kp
  obtain ⟨m, cm, F, _⟩ := I'.body
  have hfo : framesOf [env] = [env.locals] := by simp [framesOf, hfrm]
  have hfr : ∀ e ∈ [env], FrameOk h' e := by
    intro e he
    simp only [List.mem_singleton] at he; subst he
    obtain ⟨o, es, ep, ho, hd, _⟩ := F.ns
    exact ⟨by rw [hk]; decide, _, o, es, ep, hfrm, ho, hd⟩
  refine h A [env] { s with heap := h', toks := tk } (fun b => X₀ b ∨ W b) vs _ _ R φ hfr (fun L hL => ?_) I'.subK I'.sat.1 pv fun v h'' tk' k'' sk p => ?_
  · rw [hfo] at hL
    simp only [List.mem_singleton] at hL; subst hL
    refine ⟨.inr I.wl, ?_⟩
    cases e : K env.locals with
    | none => rfl
    | some o => have := I.kb _ o e; rw [I.off _ I.wl] at this; cases this
  · rw [hfo] at k'' sk
    exact c v h'' tk' (I'.slots (Z := []) (fun L hL => by cases hL) (fun b o h1 _ q => k'' b o (by simpa using h1) q) sk (fun L hL => by cases hL)) (fun L hL => by cases hL) p

theorem evg_meth {o : Expr} {name : Str} {apos pos : Pos} {args : List Expr} {T id : String} {Po P : WV} {Ps : List WV}
    (pa : PlainAttrs T) (slot : Slot T name id) (hty : typeOf (.builtin id) = pure (.type "method_descriptor"))
    (ho : EvG prog w K Z Φ env r ρ o Po) (hsh : ∀ X (s : Shared) v, Po.p X s.heap v → s.TypeIs v T ∧ ∀ a, v = .ref a → ∃ ob, s.heap.get? a = some ob ∧ ob.dict = none)
    (hargs : EvL prog w K env r ρ pos args Ps)
    (h : ∀ X hh ov vs, Po.p X hh ov → All2 (fun (P : WV) v => P.p X hh v) Ps vs → Vl prog w K r X hh (call (.builtin id) (ov :: vs)) (fun v h' => P.p X h' v))
    (hbase : attributeBase o name env (eval o env) = eval o env := by rfl)
    (hfew : ((backTo pos (starEach args env)).all (fun x => !x.1) && (backToKw pos (keywordEach [] env)).all (fun x => x.1.isSome)
      && decide (args.length + ([] : List Keyword).length + (if ([] : List Keyword).isEmpty then 0 else 1) < 30)) = true := by rfl)
    (hline : (apos.endLine == pos.line) = true := by rfl) :
    EvG prog w K Z Φ env r ρ (.Call (.Attribute o name apos) args [] pos) P := by
  intro A s B X₀ W Q E R φ I hZ c
  refine wpAny_Call_method hbase hfew hline pa slot hty (ho A s B X₀ W _ E R φ I hZ fun ov h₁ t₁ I₁ sk po => ?_)
  obtain ⟨hT, hd⟩ := hsh _ { s with heap := h₁, toks := t₁ } ov po
  refine ⟨hT, hd, ?_⟩
  refine Calls.callWith_builtin hargs.plain (evalArgs_trees hargs.plain (hargs.run A _ _ _ _ R I₁.subK I₁.sat fun vs h₂ t₂ k₂ pv => ?_))
  have I₂ := I₁.keeps k₂
  exact h _ h₂ ov vs (Po.mono k₂ po) pv A _ Q E R rfl I₂.subK I₂.sat.1 fun v h'' tk' kp' p => c v h'' tk' (I₂.keeps kp') (sk.trans (SlotKeep.of_keep fun L _ o e => kp' L o (k₂ L o e))) p

theorem fnz_of_body {a : Addr} {o : Obj} {fd : FuncData} {body : List Stmt} {ps : List (Str × HV)} {P : HV} (kf : KF K gl) (ho : K a = some o) (hdata : o.data = .func fd) (hcd : ∀ h, Sub K h → h.CodeRec fd.code fd.qualname)
    (hbody : fd.body = .stmts body) (hclo : fd.closure = [])
    (hbind : ∀ vs : List Value, vs.length = ps.length → bindArgs fd ⟨vs, []⟩ = pure ((ps.map (·.1)).zip vs))
    (hst : ∀ L p, p ∈ ps → CanStore (callEnvC fd L a) p.1)
    (h : ∀ L outer Z, ExG prog w K Z (FZ (callEnvC fd L a) outer Z) (callEnvC fd L a) r (ps.map fun p => (p.1, Ent.imm p.2)).reverse body (.ret P))
    (hco : fd.scope.isCoroutine = false := by rfl) (hgen : fd.scope.isGenerator = false := by rfl) (hk : fd.scope.kind = .function := by rfl) :
    FnZ prog w K a (r + 1) (ps.map fun p => p.2.w) P := by
  intro A outer s X vs Q E R hfr hok hXZ kK hX hv c
  have hlen : vs.length = ps.length := by have := hv.length; simpa using this.symm
  have hv' : All2 (fun (P : HV) v => P.p X s.heap v) (ps.map (·.2)) vs := by
    have : ps.map (fun p => p.2.w) = (ps.map (·.2)).map HV.w := by simp [List.map_map, Function.comp_def]
    rw [this] at hv
    exact All2.map_left.mp hv
  refine wpAny_call (codeAny_call_cells (by have := R.dep; lia) (kK a o ho) hdata (kf.nolimit _ kK) (hcd _ kK) hbody (hbind vs hlen) hclo ?_ (fun s₁ x => ?_) hco hgen hk)
  · rintro ⟨n, v⟩ hm
    have hn := (List.of_mem_zip hm).1
    obtain ⟨p, hp, e⟩ := List.mem_map.mp hn
    have := (hst s.heap.objs.size p hp).ok
    rw [show p.1 = n from e] at this
    exact this
  · obtain ⟨hh, tk, rfl⟩ := x.toInCall.same
    let env := callEnvC fd s.heap.objs.size a
    have cellAbove : ∀ n c, env.cells.lookup n = some c → s.heap.objs.size < c := fun n c hc => x.above n c (mem_of_lookup hc)
    have hbz : ∀ a o, Bmax (fun b => b ∈ framesOf outer) s.heap a = some o → a ∉ framesOf outer ∧ s.heap.get? a = some o := fun a o e => bmax_of e
    refine h s.heap.objs.size outer (framesOf outer) (A.deeper env) { s with heap := hh, toks := tk } (Bmax (fun b => b ∈ framesOf outer) s.heap) X (fun b => b = env.locals ∨ ∃ n, env.cells.lookup n = some b) _ _ R.deeper ?_ ?_ ?_ ?_
    · refine ⟨Around.frames_deeper hfr, rfl, fun e he => ?_⟩
      obtain ⟨q, L', o', es, ep, hf, ho', hd'⟩ := hok e he
      exact ⟨q, L', o', es, ep, hf, x.toInCall.keep _ _ ho', hd'⟩
    · refine ⟨fun a o e => bmax_some (fun q => by rw [(hXZ a q).2] at e; cases e) (kK a o e), fun a o e => x.toInCall.keep a o (bmax_of e).2, fun b q => ⟨there_keeps hX x.toInCall.keep b q, fun z => ?_⟩, ?_, ?_, .inl rfl, fun n c hc _ => .inr ⟨n, hc⟩, fun n n' c h1 h2 => name_of_addr x.apart (mem_of_lookup h1) (mem_of_lookup h2), fun n c hc => Nat.ne_of_gt (cellAbove n c hc), _, _, ⟨x.toInCall.ns, x.cell⟩, ?_, ?_⟩
      · have := hX b q
        rcases z with rfl | ⟨n, hc⟩
        · rw [show s.heap.get? env.locals = none from freshNone _] at this; cases this
        · rw [Heap.get?_none_of_le (Nat.le_of_lt (cellAbove n b hc))] at this; cases this
      · intro b q
        cases e : Bmax (fun b => b ∈ framesOf outer) s.heap b with
        | none => rfl
        | some o =>
          have e2 := (bmax_of e).2
          rcases q with rfl | ⟨n, hc⟩
          · rw [show s.heap.get? env.locals = none from freshNone _] at e2; cases e2
          · rw [Heap.get?_none_of_le (Nat.le_of_lt (cellAbove n b hc))] at e2; cases e2
      · rintro b (rfl | ⟨n, hc⟩)
        · obtain ⟨o, _, _, e, _⟩ := x.toInCall.ns; exact liveAt e
        · obtain ⟨o, e, _⟩ := x.cell n b hc; exact liveAt e
      · intro y e hy
        obtain ⟨v, hl, hp⟩ := lookup_all2 hv' hy
        refine ⟨v, ?_, ?_⟩
        · rw [valBind _ _ _ _ (fun p hp => ?_), hl]
          have hn := (List.of_mem_zip (show (p.1, p.2) ∈ _ from hp)).1
          obtain ⟨q, hq, e⟩ := List.mem_map.mp hn
          exact e ▸ hst s.heap.objs.size q hq
        · refine e.w.mono x.toInCall.keep (Ent.refr hp fun b q => ?_)
          rcases q with q | rfl | ⟨n, hc⟩
          · exact .inl q
          · exact .inr (freshNone _)
          · exact .inr (Heap.get?_none_of_le (Nat.le_of_lt (cellAbove n b hc)))
      · have noOwn : ∀ y e, (ps.map fun p => (p.1, Ent.imm p.2)).reverse.lookup y = some e → e.isOwn = true → False := by
          intro y e hy ho'
          obtain ⟨p, hp, hpe⟩ := List.mem_map.mp (List.mem_reverse.mp (mem_of_lookup' hy))
          cases hpe; cases ho'
        exact ⟨fun y e hy ho' => (noOwn y e hy ho').elim, fun y z ey ez b _ hy _ ho' _ _ => (noOwn y ey hy ho').elim⟩
    · exact fun L hL => ⟨(hXZ L hL).1, bmax_off hL⟩
    · rintro f h' tk' ⟨v, rfl, hs, hp⟩ sk
      exact c v h' tk' (fun b o hb e => hs b o (bmax_some hb e)) ((SlotKeep.of_keep fun L _ o e => x.toInCall.keep L o e).trans sk) hp
end
end Mine

namespace Mine
open PySem PySem.Calls PySem.W

section
variable {prog : Program} {w : World} {K : PM} {gl : List (Str × Value)} {env : Env} {r : Nat} {ρ : Ctx}

theorem foldl_rep (v : Value) : ∀ (m : Nat) (acc : Array Value), List.foldl (fun x1 x2 => x1 ++ x2) acc (List.replicate m #[v]) = acc ++ (List.replicate m v).toArray
  | 0, acc => by simp
  | m + 1, acc => by
    rw [List.replicate_succ, List.foldl_cons, foldl_rep v m]
    apply Array.ext'
    simp [List.replicate_succ]
/-- [c] * n -/
theorem ev_mulL {a b : Expr} {pos : Pos} {P : HV} {x : Int} (ha : Ev prog w K env r ρ a (LSeq "list" [P])) (hb : Ev prog w K env r ρ b (TInt x)) (hx : 0 ≤ x) (hx2 : x ≤ 1000) : Ev prog w K env r ρ (.BinOp a .Mult b pos) (TList (List.replicate x.toNat P)) := by
  refine ev_bin ha hb ?_
  rintro X hh va vb ⟨l, vs, n, rfl, ho, hi⟩ ⟨t, rfl⟩ A s Q E R e kK hX c
  subst e
  obtain ⟨u, rfl⟩ : ∃ u, vs = #[u] := by
    obtain ⟨l⟩ := vs
    obtain ⟨u, rfl, _⟩ := vs1 hi
    exact ⟨u, rfl⟩
  have pu : P.p X s.heap u := hi.1
  have hm : ∀ m, All2 (fun (P : HV) v => P.p X s.heap v) (List.replicate m P) (List.replicate m u) := by
    intro m
    induction m with
    | zero => exact trivial
    | succ m ih => exact ⟨pu, ih⟩
  refine wpAny_binaryOp_repeat_ref (T := "list") (U := "int") (by decide) ⟨_, ho, rfl⟩ (fun s' => typeIs_int s' x t) noFill_list_mul F.fills_int_mul F.slot_int_rmul repeat_list F.slot_int_index.lookup
    (call_meets F.slot_int_rmul (typeIs_int s x t) F.entry_int_rmul (F.args_int_rmul_2 _ _) (int___rmul___int_list x t l #[u] n)
      ⟨ho, rfl, ⟨_, ho, rfl⟩, call_meets F.slot_list_mul ⟨_, ho, rfl⟩ F.entry_list_mul (F.args_list_mul_2 _ _)
        (AutoListH.list___mul___list_int_3 l #[u] n x t (by simp [Builtin.List.listFitsIndex]; lia) (by have : (#[u] : Array Value).size = 1 := rfl; rw [this]; lia) (by have : (#[u] : Array Value).size = 1 := rfl; simp [Builtin.List.listTooLong, sizeLine, this]; lia)) ⟨ho, ?_⟩⟩)
  have e : (List.foldl (fun x1 x2 => x1 ++ x2) #[] (List.replicate (if (#[u] : Array Value).isEmpty = true then 0 else x.toNat) #[u])) = (List.replicate x.toNat u).toArray := by
    rw [if_neg (by simp)]
    rw [foldl_rep]; simp
  refine c _ _ _ (fun b o q => Heap.get?_push_of_some _ q) ?_
  have := seq_new (X := X) (h := s.heap) (cls := "list") (Ps := List.replicate x.toNat P) (vs := List.replicate x.toNat u) hX (All2.map_left.mpr (hm _))
  rw [← e] at this
  exact this

theorem satFlat {h : Heap} {X : XS} {ρ₀ : Ctx} (S : Sat env ρ X h) (hl : ∀ x e, ρ₀.lookup x = some e → ρ.lookup x = some e) (hf : ∀ x e, ρ₀.lookup x = some e → ∃ P : HV, e = .imm P ∧ P.flat) : Sat env ρ₀ (fun b => (h.get? b).isSome = true) h := by
  obtain ⟨_, m, cm, F, V⟩ := S
  refine ⟨fun _ q => q, m, cm, F, fun x e hx => ?_⟩
  obtain ⟨v, hv, hp⟩ := V x e (hl x e hx)
  obtain ⟨P, rfl, hP⟩ := hf x e hx
  exact ⟨v, hv, hP _ _ _ _ _ hp⟩
theorem exs_new_listF {x : Str} {px pos : Pos} {e : Expr} {Ps : List HV} (ρ₀ : Ctx) (C : CanStore env x) (he : Ev prog w K env r ρ₀ e (TList Ps)) (hf : ∀ P ∈ Ps, P.flat) (hl : ∀ x e, ρ₀.lookup x = some e → ρ.lookup x = some e) (hfl : ∀ x e, ρ₀.lookup x = some e → ∃ P : HV, e = .imm P ∧ P.flat)
    (hs : swapsWith e (some (.Name x px)) pos.line env = pure false := by rfl) : ExS prog w K env r ρ (.Assign [.Name x px] e pos) (.next ((x, .ownS "list" Ps) :: ρ)) := by
  intro A s B X₀ W Q E R I c
  refine wpAny_Assign_Name (he A s _ _ E R I.subK (satFlat I.sat hl hfl) ?_) hs
  rintro v h' tk k ⟨⟨a, rfl, hX⟩, a', vs, n, e', ho, hi⟩
  cases e'
  have hnew : s.heap.get? a = none := by
    cases q : s.heap.get? a with
    | none => rfl
    | some o => exact absurd (liveAt q) hX
  refine bind_own (e := .ownS "list" Ps) I C k hnew (liveAt ho) rfl ⟨a, vs, n, rfl, ho, hi.imp' fun P hP u hu => hf P hP _ _ _ _ _ hu⟩ fun h'' tk' I' => c .next h'' tk' ⟨rfl, _, I'⟩

/-- an own container is changed, other things may have grown -/
theorem Inv.poke2 {B : PM} {X₀ W : XS} {h h' : Heap} {x : Str} {e e' : Ent} {a : Addr} (I : Inv env K B X₀ W ρ h) (hx : ρ.lookup x = some e) (ho : e.isOwn = true) (ho' : e'.isOwn = true)
    (hv : ∀ m cm, Fm env h m cm → valOf env m cm x = some (.ref a)) (k : ∀ b o, b ≠ a → h.get? b = some o → h'.get? b = some o) (hp : e'.w.p (fun b => X₀ b ∨ W b) h' (.ref a)) (hlive : (h'.get? a).isSome = true) : Inv env K B X₀ W ((x, e') :: ρ) h' := by
  obtain ⟨m, cm, F, V, O⟩ := I.body
  have hva := hv m cm F
  obtain ⟨a', q1, hWa, hal, hac⟩ := O.inW x e hx ho
  rw [hva] at q1; cases q1
  have kX : ∀ b o, ¬ (X₀ b ∨ W b) → h.get? b = some o → h'.get? b = some o := fun b o hb e => k b o (fun q => hb (.inr (q ▸ hWa))) e
  refine ⟨I.kb, fun b o e => k b o (fun q => by subst q; rw [I.off b hWa] at e; cases e) (I.sub b o e), fun b q => ⟨?_, (I.dom b q).2⟩, I.off, fun b q => ?_, I.wl, I.wc, I.apart, I.coff, m, cm, ⟨F.ns.at' fun o e => k _ o (Ne.symm hal) e, fun n c hc => ?_⟩, fun y ey hy => ?_, ⟨fun y ey hy hoy => ?_, fun y z ey ez b hne hy hz hoy hoz hvy => ?_⟩⟩
  · obtain ⟨o, e⟩ := Option.isSome_iff_exists.mp (I.dom b q).1
    exact liveAt (k b o (fun z => (I.dom b q).2 (z ▸ hWa)) e)
  · by_cases q' : b = a
    · subst q'; exact hlive
    · obtain ⟨o, e⟩ := Option.isSome_iff_exists.mp (I.live b q)
      exact liveAt (k b o q' e)
  · obtain ⟨o, q1, q2⟩ := F.cell n c hc
    exact ⟨o, k c o (hac n c hc) q1, q2⟩
  · rw [List.lookup_cons] at hy
    cases hb : y == x with
    | true => rw [hb] at hy; cases hy; rw [eq_of_beq hb]; exact ⟨_, hva, hp⟩
    | false =>
      rw [hb] at hy
      have hne : y ≠ x := by simpa using hb
      obtain ⟨u, hu, hpu⟩ := V y ey hy
      refine ⟨u, hu, ?_⟩
      cases hown : ey.isOwn with
      | false =>
        cases ey with
        | imm R => exact R.frame kX hpu
        | ownS _ _ => cases hown
        | ownD _ _ => cases hown
      | true =>
        obtain ⟨b, hb', _⟩ := O.inW y ey hy hown
        rw [hu] at hb'; cases hb'
        exact own_keep hown hpu (fun o q => k b o (fun z => O.sep x y e ey a (Ne.symm hne) hx hy ho hown hva (z ▸ hu)) q) kX
  · rw [List.lookup_cons] at hy
    cases hb : y == x with
    | true => rw [eq_of_beq hb]; exact O.inW x e hx ho
    | false => rw [hb] at hy; exact O.inW y ey hy hoy
  · rw [List.lookup_cons] at hy hz
    have ey' : ∃ ey', ρ.lookup y = some ey' ∧ ey'.isOwn = true := by
      cases hb : y == x with
      | true => rw [eq_of_beq hb]; exact ⟨e, hx, ho⟩
      | false => rw [hb] at hy; exact ⟨ey, hy, hoy⟩
    have ez' : ∃ ez', ρ.lookup z = some ez' ∧ ez'.isOwn = true := by
      cases hb : z == x with
      | true => rw [eq_of_beq hb]; exact ⟨e, hx, ho⟩
      | false => rw [hb] at hz; exact ⟨ez, hz, hoz⟩
    obtain ⟨ey', hy', hoy'⟩ := ey'
    obtain ⟨ez', hz', hoz'⟩ := ez'
    exact O.sep y z ey' ez' b hne hy' hz' hoy' hoz' hvy

theorem all2_set {R : HV → Value → Prop} {P : HV} {v : Value} (h : R P v) : ∀ {Ps : List HV} {vs : List Value} (i : Nat), All2 R Ps vs → All2 R (Ps.set i P) (vs.set i v)
  | [], [], _, _ => trivial
  | _ :: _, _ :: _, 0, ⟨_, r⟩ => ⟨h, r⟩
  | _ :: _, _ :: _, i + 1, ⟨a, r⟩ => ⟨a, all2_set h i r⟩
/-- x[i] = e, a list -/
theorem exs_setL {x : Str} {px spos pos : Pos} {i e : Expr} {Ps : List HV} {P : HV} {j : Nat} {k : Int} (hk : env.scope.kind = .function) (hx : ρ.lookup x = some (.ownS "list" Ps)) (he : Ev prog w K env r ρ e P) (hi : Ev prog w K env r ρ i (TInt k)) (hkj : k = (j : Int)) (hj : j < Ps.length) (hjs : Ps.length ≤ 1000000)
    (hs : swapsWith e (some (.Subscript (.Name x px) i spos)) pos.line env = pure false := by rfl)
    (hd : (x == ("__debug__" : Str)) = false := by decide) (hn : (x == ("__classdict__" : Str)) = false := by decide) :
    ExS prog w K env r ρ (.Assign [.Subscript (.Name x px) i spos] e pos) (.next ((x, .ownS "list" (Ps.set j P)) :: ρ)) := by
  intro A s B X₀ W Q E R I c
  subst hkj
  refine wpAny_Assign_Subscript (he A s _ _ E R I.subK I.sat fun v h₁ t₁ k₁ pv => ?_) hs
  have I₁ := I.keeps k₁
  refine own_var (s := { s with heap := h₁, toks := t₁ }) I₁ hk hx rfl (fun a hWa hva pa => ?_) hd hn
  refine hi A _ _ _ E R I₁.subK I₁.sat ?_
  rintro iv h₂ t₂ k₂ ⟨t, rfl⟩
  obtain ⟨a', vs, n, e1, ho, hit⟩ := pa
  cases e1
  have hsz : vs.size = Ps.length := by rw [hit.length]; simp
  have ho₂ := k₂ _ _ ho
  refine ki_setAt (n := n) ho₂ (by lia) (by lia) (by lia) ?_
  have hup : (h₂.update a (Obj.mapSeq (·.setIfInBounds ((j : Int).toNat) v))).get? a = some (Obj.mapSeq (·.setIfInBounds ((j : Int).toNat) v) { cls := .type "list", data := .seq vs n }) := Heap.get?_update_self _ ho₂ rfl
  have kk : ∀ b o, b ≠ a → h₂.get? b = some o → (h₂.update a (Obj.mapSeq (·.setIfInBounds ((j : Int).toNat) v))).get? b = some o := fun b o hb q => (Heap.get?_update_other _ _ (Ne.symm hb)).trans q
  have kX : ∀ b o, ¬ (X₀ b ∨ W b) → h₂.get? b = some o → (h₂.update a (Obj.mapSeq (·.setIfInBounds ((j : Int).toNat) v))).get? b = some o := fun b o hb q => kk b o (fun z => hb (.inr (z ▸ hWa))) q
  refine c .next _ _ ⟨rfl, W, (I₁.keeps k₂).poke2 hx rfl rfl (hva h₂ k₂) kk ⟨a, _, _, rfl, hup.trans rfl, ?_⟩ (liveAt hup)⟩
  have e2 : (vs.setIfInBounds ((j : Int).toNat) v).toList = vs.toList.set j v := by simp
  rw [e2]
  exact all2_set (R := fun (P : HV) u => P.p (fun b => X₀ b ∨ W b) (h₂.update a (Obj.mapSeq (·.setIfInBounds ((j : Int).toNat) v))) u) (P.frame kX (P.frame (fun b o _ q => k₂ b o q) pv)) j (hit.imp fun Q u hu => Q.frame kX (Q.frame (fun b o _ q => k₂ b o q) hu))
end
end Mine

namespace Mine
open PySem PySem.Calls PySem.W

theorem lookup_app.{u} {α : Type u} {l l' : List (Str × α)} {x : Str} : (l ++ l').lookup x = (l.lookup x).or (l'.lookup x) := List.lookup_append

section
variable {prog : Program} {w : World} {K : PM} {gl : List (Str × Value)} {r : Nat}

theorem clo_run {A : Around} {s : Shared} {X WD : XS} {f c' : Addr} {name qual : Str} {params : Arguments} {body : List Stmt} {scope : Scope} {clos : List (Str × Addr)} {doc pm ctv : Value} {ps : List (Str × HV)} {ρf : Ctx} {cmf : Str → Option Value} {vs : List Value} {Q : Value → Shared → Prop} {E : Value → Shared → Prop}
    (kf : KF K gl) (hroom : A.depth < recursionLimit) (kK : Sub K s.heap) (hX : ∀ b, X b → (s.heap.get? b).isSome = true) (hWD : ∀ b, WD b → X b) (hWK : ∀ b, WD b → K b = none) (ho : s.heap.get? f = some (fnMade name qual params body scope clos doc pm c' ctv)) (hcd : s.heap.CodeRec (.ref c') qual)
    (hbind : bindArgs (fnX name qual params body scope clos .none .none doc pm none (.ref c') ctv) ⟨vs, []⟩ = pure ((ps.map (·.1)).zip vs)) (hloc : ∀ p ∈ ps, scope.names.lookup p.1 = some .local) (hnc : ∀ y ∈ scope.names, y.2 ≠ .cell)
    (hcells : ∀ n c, clos.lookup n = some c → s.heap.IsCell c (cmf n)) (hap : ∀ n n' c, clos.lookup n = some c → clos.lookup n' = some c → n = n') (hv : All2 (fun (P : HV) v => P.p X s.heap v) (ps.map (·.2)) vs)
    (hf : ∀ x e, ρf.lookup x = some e → ∃ c v, clos.lookup x = some c ∧ scope.names.lookup x = some .free ∧ cmf x = some v ∧ e.w.p X s.heap v ∧ (e.isOwn = true → ∃ a, v = .ref a ∧ WD a ∧ ∀ n c, clos.lookup n = some c → c ≠ a))
    (hsep : ∀ x y ex ey, ρf.lookup x = some ex → ρf.lookup y = some ey → ex.isOwn = true → ey.isOwn = true → x = y)
    (hpf : ∀ x e, ρf.lookup x = some e → (ps.map (·.1)).contains x = false)
    (h : ∀ L hh tk E', (∀ b o, s.heap.get? b = some o → hh.get? b = some o) → s.heap.get? L = none → Inv (envX qual scope L f (.ref c') clos) K (Bmax WD s.heap) (fun b => X b ∧ ¬ WD b) (fun b => b = L ∨ WD b) ((ps.map fun p => (p.1, Ent.imm p.2)).reverse ++ ρf) hh →
      wpAny (model prog w) (A.deeper (envX qual scope L f (.ref c') clos)) (execs body (envX qual scope L f (.ref c') clos)) (fun fl s' => Q (match fl with | .ret v => v | _ => .none) s') E' { s with heap := hh, toks := tk })
    (hco : scope.isCoroutine = false := by rfl) (hgen : scope.isGenerator = false := by rfl) (hk : scope.kind = .function := by rfl) : wpAny (model prog w) A (call (.ref f) vs) Q E s := by
  refine wpAny_call (codeAny_call_function (body := body) hroom ho rfl hco hgen rfl hcd ?_)
  rw [hbind]
  have hlen : vs.length = ps.length := by have := hv.length; simpa using this.symm
  refine wpAny_pure (wpAny_newFunctionEnv hnc (fun x hx => ?_) (fun h' hns hsb => ⟨(kf.nolimit _ kK).fresh _ hsb, ?_⟩) hk)
  · have hn := (List.of_mem_zip (show (x.1, x.2) ∈ _ from hx)).1
    obtain ⟨p, hp, e⟩ := List.mem_map.mp hn
    exact e ▸ hloc p hp
  · have keep : ∀ b o, s.heap.get? b = some o → h'.get? b = some o := fun b o e => hsb.extBut b o (Nat.ne_of_lt (Heap.lt_size e)) (Heap.get?_push_of_some _ e)
    refine codeAny_func (h s.heap.objs.size h' _ _ keep (freshNone _) ?_)
    have hXX : ∀ b, ((X b ∧ ¬ WD b) ∨ (b = s.heap.objs.size ∨ WD b)) → X b ∨ s.heap.get? b = none := fun b q => by
      rcases q with q | rfl | q
      · exact .inl q.1
      · exact .inr (freshNone _)
      · exact .inl (hWD b q)
    have cellNe : ∀ n c, clos.lookup n = some c → c ≠ s.heap.objs.size := fun n c hc => by
      obtain ⟨o, e, _⟩ := hcells n c hc
      exact Nat.ne_of_lt (Heap.lt_size e)
    refine ⟨fun a o e => bmax_some (fun q => by rw [hWK a q] at e; cases e) (kK a o e), fun a o e => keep a o (bmax_of e).2, fun b q => ⟨there_keeps hX keep b q.1, fun z => ?_⟩, fun b q => ?_, fun b q => ?_, .inl rfl, fun n c hc hkk => ?_, hap, cellNe, _, cmf, ⟨hns, fun n c hc => (hcells n c hc).keeps keep⟩, fun x e hx => ?_, ?_⟩
    · rcases z with rfl | z
      · have := hX _ q.1; rw [freshNone] at this; cases this
      · exact q.2 z
    · rcases q with rfl | q
      · cases e : Bmax WD s.heap s.heap.objs.size with
        | none => rfl
        | some o => have := (bmax_of e).2; rw [freshNone] at this; cases this
      · exact bmax_off q
    · rcases q with rfl | q
      · obtain ⟨o, _, _, e, _⟩ := hns; exact liveAt e
      · exact there_keeps hX keep b (hWD b q)
    · exact absurd rfl (hnc (n, .cell) (mem_of_lookup hkk))
    · rw [lookup_app] at hx
      cases hq : (ps.map fun p => (p.1, Ent.imm p.2)).reverse.lookup x with
      | some e' =>
        rw [hq] at hx
        simp only [Option.some_or, Option.some.injEq] at hx
        subst hx
        obtain ⟨v, hl, hp⟩ := lookup_all2 hv hq
        refine ⟨v, ?_, e'.w.mono keep (Ent.refr hp hXX)⟩
        have hxl : Env.kindOf (envX qual scope s.heap.objs.size f (.ref c') clos) x = some .local := by
          have hm := mem_of_lookup hl
          have hn := (List.of_mem_zip (List.mem_reverse.mp hm)).1
          obtain ⟨p, hp, e⟩ := List.mem_map.mp hn
          exact e ▸ hloc p hp
        unfold valOf
        rw [hxl]
        exact hl
      | none =>
        rw [hq] at hx
        simp only [Option.none_or] at hx
        obtain ⟨c, v, q1, q2, q3, q4, _⟩ := hf x e hx
        refine ⟨v, ?_, e.w.mono keep (Ent.refr q4 hXX)⟩
        unfold valOf
        rw [show Env.kindOf (envX qual scope s.heap.objs.size f (.ref c') clos) x = some .free from q2]
        show (clos.lookup x).bind _ = _
        rw [q1]; exact q3
    · have ownF : ∀ x e, ((ps.map fun p => (p.1, Ent.imm p.2)).reverse ++ ρf).lookup x = some e → e.isOwn = true → ρf.lookup x = some e := by
        intro x e hx ho'
        rw [lookup_app] at hx
        cases hq : (ps.map fun p => (p.1, Ent.imm p.2)).reverse.lookup x with
        | some e' =>
          rw [hq] at hx
          simp only [Option.some_or, Option.some.injEq] at hx
          subst hx
          obtain ⟨p, hp, hpe⟩ := List.mem_map.mp (List.mem_reverse.mp (mem_of_lookup' hq))
          cases hpe; cases ho'
        | none => rw [hq] at hx; simpa using hx
      refine ⟨fun x e hx ho' => ?_, fun x y ex ey a hne hx hy hox hoy _ => absurd (hsep x y ex ey (ownF x ex hx hox) (ownF y ey hy hoy) hox hoy) hne⟩
      obtain ⟨c, v, q1, q2, q3, q4, q5⟩ := hf x e (ownF x e hx ho')
      obtain ⟨a, rfl, qa, qc⟩ := q5 ho'
      refine ⟨a, ?_, .inr qa, fun z => ?_, qc⟩
      · unfold valOf
        rw [show Env.kindOf (envX qual scope s.heap.objs.size f (.ref c') clos) x = some .free from q2]
        show (clos.lookup x).bind _ = _
        rw [q1]; exact q3
      · have := hX a (hWD a qa)
        rw [show a = s.heap.objs.size from z, freshNone] at this; cases this

/-! ### code tables -/
noncomputable def TabOk (P : Addr) (pos : Pos) (q : Str) (h : Heap) : Prop := ∃ ps, h.get? P = some (tabObj ps) ∧ (ps = #[] ∨ ∃ c', ps = #[rawInt pos.line, rawInt pos.col, .ref c'] ∧ ∃ o vs t, h.get? c' = some o ∧ o.data = .fields vs ∧ vs[1]? = some (.str q t))
/-- records with a name are not written to -/
noncomputable def KeepS (h h' : Heap) : Prop := ∀ b o vs q t, h.get? b = some o → o.data = .fields vs → vs[1]? = some (.str q t) → h'.get? b = some o
theorem TabOk.keep {P : Addr} {pos : Pos} {q : Str} {h h' : Heap} (x : TabOk P pos q h) (hP : ∀ o, h.get? P = some o → h'.get? P = some o) (k : KeepS h h') : TabOk P pos q h' := by
  obtain ⟨ps, h1, h2⟩ := x
  refine ⟨ps, hP _ h1, h2.imp id ?_⟩
  rintro ⟨c', e, o, vs, t, q1, q2, q3⟩
  exact ⟨c', e, o, vs, t, k _ _ _ _ _ q1 q2 q3, q2, q3⟩

/-- a named record -/
noncomputable def Rec (h : Heap) (c' : Addr) (q : Str) : Prop := ∃ o vs t, h.get? c' = some o ∧ o.data = .fields vs ∧ vs[1]? = some (.str q t)
theorem Rec.code {h : Heap} {c' : Addr} {q : Str} (x : Rec h c' q) : h.CodeRec (.ref c') q :=
  let ⟨o, vs, t, e, d, v⟩ := x; ⟨c', o, vs, t, rfl, e, d, v⟩
theorem Rec.of {h : Heap} {c' : Addr} {q : Str} (x : h.CodeRec (.ref c') q) : Rec h c' q :=
  let ⟨c, o, vs, t, e, g, d, v⟩ := x; by cases e; exact ⟨o, vs, t, g, d, v⟩
theorem tri3 (a b : Int) (t u : Tok) (c : Value) : TriplesOk [.int a t, .int b u, c] := by simp [TriplesOk]

theorem def_run {env : Env} {ρ : Ctx} {A : Around} {s : Shared} {B : PM} {X₀ W : XS} {name : Str} {params : Arguments} {body : List Stmt} {scope : Scope} {pos : Pos} {c P : Addr} {clos : List (Str × Addr)} {Q : Flow → Shared → Prop} {E : Value → Shared → Prop}
    (kf : KF K gl) (hgl : env.globals = mainGlobals) (I : Inv env K B X₀ W ρ s.heap) (C : CanStore env name) (hP : X₀ P ∧ B P = none) (T : TabOk P pos (qualnameIn env name name) s.heap) (hCH : ∀ h, Sub K h → CodeHd h c P) (hBA : ∀ h mg, Sub K h → h.Ns mainGlobals mg → h.BuiltinsAt mg P)
    (hWf : ∀ b o vs, W b → s.heap.get? b = some o → o.data ≠ .fields vs) (hcode : env.code = .ref c) (hcl : closureFor scope env = pure clos) (hgP : mainGlobals ≠ P) (hd0 : params.defaults = []) (hk0 : params.kw_defaults = []) (ha : annTrees params none env = [])
    (h : ∀ f c' doc pm ctv h' tk, Inv env K B X₀ W ((name, .imm (TVal fun v => v = .ref f)) :: ρ) h' → TabOk P pos (qualnameIn env name name) h' → h'.get? f = some (fnMade name (qualnameIn env name name) params body scope clos doc pm c' ctv) → s.heap.get? f = none →
      Rec h' c' (qualnameIn env name name) → (∀ b o, b ≠ P → ¬ W b → s.heap.get? b = some o → h'.get? b = some o) → Q .next { s with heap := h', toks := tk }) :
    wpAny (model prog w) A (exec (.FunctionDef name params body [] none [] scope none name pos) env) Q E s := by
  obtain ⟨mg, hmg, _⟩ := kf.glob _ I.subK
  have hPW : ¬ W P := (I.dom P hP.1).2
  have hKP : K P = none := by
    cases e : K P with
    | none => rfl
    | some o => have := I.kb P o e; rw [hP.2] at this; cases this
  have hcP : ∀ n c, env.cells.lookup n = some c → c ≠ P := by
    rintro n c' hc rfl
    obtain ⟨m, cm, F, _⟩ := I.body
    obtain ⟨ps, e, _⟩ := T
    obtain ⟨o, e2, d2⟩ := F.cell n _ hc
    rw [e] at e2; cases e2; cases d2
  refine nestDef_K hd0 hk0 ha ?_
  obtain ⟨ps, hps, hor⟩ := T
  -- what comes after the object is made
  have fin : ∀ (h₁ : Heap) (tk : Tok) (c' : Addr) (doc ctv : Value), (∀ b o, b ≠ P → s.heap.get? b = some o → h₁.get? b = some o) → s.heap.objs.size ≤ h₁.objs.size → h₁.get? P = some (tabObj #[rawInt pos.line, rawInt pos.col, .ref c']) → Rec h₁ c' (qualnameIn env name name) → c' ≠ P → ¬ W c' →
      wpAny (model prog w) A (storeName env name (.ref h₁.objs.size)) (fun _ s'' => Q .next s'') E { s with heap := h₁.push (fnMade name (qualnameIn env name name) params body scope clos doc ((mg "__name__").getD .none) c' ctv), toks := tk } := by
    intro h₁ tk c' doc ctv keep hsz hT hcr hcP' hcW
    have up : ∀ b o, b ≠ P → s.heap.get? b = some o → (h₁.push (fnMade name (qualnameIn env name name) params body scope clos doc ((mg "__name__").getD .none) c' ctv)).get? b = some o := fun b o hb e => Heap.get?_push_of_some _ (keep b o hb e)
    have I₁ : Inv env K B X₀ W ρ (h₁.push (fnMade name (qualnameIn env name name) params body scope clos doc ((mg "__name__").getD .none) c' ctv)) :=
      I.move (V := fun b => b = P) (fun b o hb e => up b o hb e) (fun b hb => hb ▸ hP.1) (fun n c hc z => hcP n c hc z) (fun b hb => by rw [show b = P from hb]; exact liveAt (Heap.get?_push_of_some _ hT)) I.kb
        (fun a o e => up a o (fun z => by rw [z, hP.2] at e; cases e) (I.sub a o e)) I.off
    have hfn : s.heap.get? h₁.objs.size = none := Heap.get?_none_of_le hsz
    refine bind_imm (s := { s with heap := h₁.push (fnMade name (qualnameIn env name name) params body scope clos doc ((mg "__name__").getD .none) c' ctv), toks := tk }) (P := TVal fun v => v = .ref h₁.objs.size) I₁ C rfl fun h' tk' I' k' => ?_
    have hfW : ¬ W h₁.objs.size := fun q => by have := I.live _ q; rw [hfn] at this; cases this
    obtain ⟨oc, vs, t, e, d, v⟩ := hcr
    have hrec : Rec h' c' (qualnameIn env name name) := ⟨oc, vs, t, k' _ _ hcW (Heap.get?_push_of_some _ e), d, v⟩
    exact h h₁.objs.size c' doc _ ctv h' tk' I' ⟨_, k' _ _ hPW (Heap.get?_push_of_some _ hT), .inr ⟨c', rfl, hrec⟩⟩ (k' _ _ hfW (Heap.get?_push_size _ rfl)) hfn hrec fun b o h1 h2 e => k' b o h2 (up b o h1 e)
  rcases hor with rfl | ⟨c', rfl, hrec⟩
  · refine makeFunction_K hcl hgl hmg hcode (hCH _ I.subK) hps trivial rfl hgP (hBA _ _ I.subK hmg) fun c' ctv doc h' tk hx h1 h2 h3 h4 => ?_
    replace hx : Heap.ExtBut P s.heap h' := hx
    refine fin h' tk c' doc ctv (fun b o hb e => hx b o hb e) (Nat.le_of_lt (Nat.lt_of_le_of_lt h1 h2)) (by simpa using h4) (Rec.of h3) (fun z => ?_) (fun z => ?_)
    · have := Heap.lt_size hps; rw [← z] at this; exact Nat.lt_irrefl _ (Nat.lt_of_lt_of_le this h1)
    · have := I.live c' z; rw [Heap.get?_none_of_le h1] at this; cases this
  · refine makeFunction_hit (cv := .ref c') hcl hgl hmg hcode (hCH _ I.subK) hps (tri3 _ _ _ _ _) (by simp [codeAmong, rawInt]) (hBA _ _ I.subK hmg) fun ctv doc h' tk hk' hsz => ?_
    refine fin h' tk c' doc ctv (fun b o _ e => hk' b o e) hsz (hk' _ _ hps) ?_ (fun z => ?_) ?_
    · obtain ⟨o, vs, t, e, d, v⟩ := hrec; exact ⟨o, vs, t, hk' _ _ e, d, v⟩
    · obtain ⟨o, vs, t, e, d, v⟩ := hrec
      rw [z, hps] at e; cases e; cases d; simp [rawInt] at v
    · intro z
      obtain ⟨o, vs, t, e, d, v⟩ := hrec
      exact hWf c' o vs z e d

theorem Inv.shrink {env : Env} {ρ : Ctx} {B : PM} {X₀ W : XS} {h : Heap} (I : Inv env K B X₀ W ρ h) : ∃ W', (∀ b, W' b → W b) ∧ (∀ b o vs, W' b → h.get? b = some o → o.data ≠ .fields vs) ∧ Inv env K B X₀ W' ρ h := by
  obtain ⟨m, cm, F, V, O⟩ := I.body
  refine ⟨fun b => W b ∧ ∀ o vs, h.get? b = some o → o.data ≠ .fields vs, fun b q => q.1, fun b o vs q e => q.2 o vs e, I.kb, I.sub, fun b q => ⟨(I.dom b q).1, fun z => (I.dom b q).2 z.1⟩, fun b q => I.off b q.1, fun b q => I.live b q.1, ⟨I.wl, fun o vs e d => ?_⟩, fun n c hc hk => ⟨I.wc n c hc hk, fun o vs e d => ?_⟩, I.apart, I.coff, m, cm, F,
    V.refr fun b q => .inl (q.elim .inl fun q => .inr q.1), ⟨fun x e hx ho => ?_, O.sep⟩⟩
  · obtain ⟨o', es, ep, e', d', _⟩ := F.ns
    rw [e] at e'; cases e'; rw [d] at d'; cases d'
  · obtain ⟨o', e', d'⟩ := F.cell n c hc
    rw [e] at e'; cases e'; rw [d] at d'; cases d'
  · obtain ⟨a, q1, q2, q3, q4⟩ := O.inW x e hx ho
    refine ⟨a, q1, ⟨q2, fun o vs eo d => ?_⟩, q3, q4⟩
    obtain ⟨v, hv, hp⟩ := V x e hx
    rw [q1] at hv; cases hv
    cases e with
    | imm P => cases ho
    | ownS cls Ps =>
      obtain ⟨a', us, n, e1, hg, _⟩ := hp
      cases e1; rw [eo] at hg; cases hg; cases d
    | ownD knd kvs =>
      obtain ⟨a', us, e1, _, ⟨o', es, ep, hg, _, hd, _⟩, _⟩ := hp
      cases e1; rw [eo] at hg; cases hg; rw [d] at hd; cases hd
end
end Mine

namespace Mine
open PySem PySem.Calls

/-! ### the program's texts, by their place -/
noncomputable abbrev PW : Program := PySem.Challenge.rw_xg0058_01.row.prog
noncomputable def stm (k : Nat) : Stmt := PW.main.body.getD k (.Pass default)
noncomputable def bodyOf : Stmt → List Stmt
  | .FunctionDef _ _ body .. => body
  | _ => []
noncomputable def paramsOf : Stmt → Arguments
  | .FunctionDef _ a .. => a
  | _ => ⟨[], [], none, [], [], none, []⟩
noncomputable def scopeOf : Stmt → Scope
  | .FunctionDef _ _ _ _ _ _ sc .. => sc
  | _ => default
noncomputable def nameOf : Stmt → Str
  | .FunctionDef n .. => n
  | _ => default
noncomputable def fdAt (k : Nat) (pm cd doc : Value) : FuncData := docDef (nameOf (stm k)) (paramsOf (stm k)) (bodyOf (stm k)) (scopeOf (stm k)) pm cd doc
noncomputable abbrev envAt (k : Nat) (pm cd doc : Value) (L a : Addr) : Env := callEnvC (fdAt k pm cd doc) L a

section
variable {w : World} {K : PM} {gl : List (Str × Value)}

theorem canLocal {env : Env} {x : Str} (hk : env.scope.kind = .function := by rfl) (h : env.kindOf x = some .local := by rfl) : CanStore env x := ⟨hk, .inl h⟩
theorem canCell {env : Env} {x : Str} (hk : env.scope.kind = .function := by rfl) (h : env.kindOf x = some .cell := by rfl) (hc : (env.cells.lookup x).isSome = true := by rfl) : CanStore env x := ⟨hk, .inr ⟨h, hc⟩⟩

section
variable {prog : Program} {env : Env} {r : Nat} {ρ : Ctx} {x : Str} {p : Pos}
theorem ev_v {P : HV} (hk : env.scope.kind = .function := by rfl) (hx : ρ.lookup x = some (.imm P) := by rfl) (hd : (x == ("__debug__" : Str)) = false := by decide)
    (hn : (x == ("__classdict__" : Str)) = false := by decide) : Ev prog w K env r ρ (.Name x p) P.w := ev_var hk hx hd hn
theorem ev_oS {cls : String} {Ps : List HV} (hk : env.scope.kind = .function := by rfl) (hx : ρ.lookup x = some (.ownS cls Ps) := by rfl) (hd : (x == ("__debug__" : Str)) = false := by decide)
    (hn : (x == ("__classdict__" : Str)) = false := by decide) : Ev prog w K env r ρ (.Name x p) (LSeq cls Ps) := ev_var hk hx hd hn
theorem ev_oD {κ : Type} [DecidableEq κ] {knd : KeyKind prog w κ} {kvs : List (κ × HV)} (hk : env.scope.kind = .function := by rfl) (hx : ρ.lookup x = some (.ownD knd kvs) := by rfl) (hd : (x == ("__debug__" : Str)) = false := by decide)
    (hn : (x == ("__classdict__" : Str)) = false := by decide) : Ev prog w K env r ρ (.Name x p) (LDict knd kvs) := ev_var hk hx hd hn
end

noncomputable def Has : Ctx → Ctx → Prop
  | [], _ => True
  | (x, e) :: r, ρ => ρ.lookup x = some e ∧ Has r ρ
theorem less {ρ' ρ : Ctx} (h : Has ρ' ρ) : ∀ x e, ρ'.lookup x = some e → ρ.lookup x = some e := by
  induction ρ' with
  | nil => intro x e hx; cases hx
  | cons p r ih =>
    obtain ⟨y, f⟩ := p
    intro x e hx
    rw [List.lookup_cons] at hx
    cases hb : x == y with
    | true => rw [hb] at hx; cases hx; rw [eq_of_beq hb]; exact h.1
    | false => rw [hb] at hx; exact ih h.2 x e hx
theorem eqI {i j : Int} (h : i = j) : some (Ent.imm (TInt i)) = some (Ent.imm (TInt j)) := by rw [h]
/-! ### count_calls -/
noncomputable def sumFrom (z : Int) (l : List Int) : Int := l.foldl (· + ·) z
theorem x_count {κ : Type} [DecidableEq κ] {knd : KeyKind PW w κ} {kvs : List (κ × HV)} {ns : List Int} (hns : kvs.map (·.2) = ns.map TInt) {pm cd doc : Value} {L a : Addr} {r : Nat} :
    Ex PW w K (envAt 4 pm cd doc L a) r [("callers", .imm (TDict knd kvs))] (bodyOf (stm 4)) (.ret (TInt (sumFrom 0 ns))) := by
  have hlen : kvs.length = ns.length := by have := congrArg List.length hns; simpa using this
  refine ex_cons (exs_assign canLocal ev_int) ?_
  refine ex_cons (exs_for (Ps := kvs.map (·.2)) (O := .next [("nc", .imm (TInt (sumFrom 0 ns))), ("callers", .imm (TDict knd kvs))]) (fun i => [("nc", .imm (TInt (sumFrom 0 (ns.take i)))), ("callers", .imm (TDict knd kvs))]) kvs.length canLocal ?_ ?_ ?_ ?_) ?_
  · exact it_values ev_v
  · simp
  · intro i P hi hP
    rw [hns, List.getElem?_map, Option.map_eq_some_iff] at hP
    obtain ⟨n, hn, rfl⟩ := hP
    refine ex_cons (exs_aug canLocal rfl ev_v (P₃ := TInt (sumFrom 0 (ns.take i) + n)) fun X hh va vb p q => vl_iadd p q) ?_
    refine ex_less ex_nil (less ⟨eqI ?_, rfl, trivial⟩)
    rw [List.take_add_one, hn]
    simp [sumFrom]
  · refine .inl ⟨by simp, ?_⟩
    rw [hlen, List.take_length]
  · exact ex_ret (exs_return ev_v)
end
end Mine

namespace Mine
open PySem PySem.Calls

/-! ### tables of ints -/
noncomputable abbrev Tbl := List (Int × Int)
noncomputable def tv (t : Tbl) : List (Int × HV) := t.map fun p => (p.1, TInt p.2)
noncomputable abbrev TD (w : World) (t : Tbl) : HV := TDict (intKind PW w) (tv t)
theorem tv_get (t : Tbl) (k : Int) : dget (tv t) k = (dget t k).map TInt := by
  unfold tv dget
  induction t with
  | nil => rfl
  | cons p t ih =>
    simp only [List.map_cons, List.find?_cons]
    by_cases q : p.1 = k
    · simp [q]
    · simp only [q, decide_false]; exact ih
theorem tv_put (t : Tbl) (k v : Int) : dput (tv t) k (TInt v) = tv (dput t k v) := by
  unfold dput tv
  have e : ((t.map fun p => (p.1, TInt p.2)).any fun kv => decide (kv.1 = k)) = t.any fun kv => decide (kv.1 = k) := by
    rw [List.any_map]; rfl
  rw [e]
  split
  · rw [List.map_map, List.map_map]
    apply List.map_congr_left
    intro p _
    simp only [Function.comp]
    split <;> rfl
  · simp
theorem tv_len (t : Tbl) : (tv t).length = t.length := by simp [tv]
theorem dput_len {K α : Type} [DecidableEq K] (t : List (K × α)) (k : K) (v : α) : (dput t k v).length ≤ t.length + 1 := by
  unfold dput; split <;> simp
theorem dput_new {K α : Type} [DecidableEq K] {t : List (K × α)} {k : K} {v : α} (h : dget t k = none) : dput t k v = t ++ [(k, v)] := by
  unfold dput
  rw [if_neg]
  intro q
  obtain ⟨p, hp, hk⟩ := List.any_eq_true.mp q
  unfold dget at h
  simp only [Option.map_eq_none_iff, List.find?_eq_none] at h
  exact h p hp hk

/-- one turn of _law_raised -/
noncomputable def raise1 (tab : Tbl) (need : Int) (acc : Tbl) (p : Int × Int) : Tbl := dput acc (max p.1 need) ((dget acc (max p.1 need)).getD 0 + p.2)
noncomputable def raisedT (tab : Tbl) (need : Int) : Tbl := tab.foldl (raise1 tab need) []
noncomputable def copyT (t : Tbl) (acc : Tbl) : Tbl := t.foldl (fun acc p => dput acc p.1 p.2) acc
noncomputable def add1 (acc : Tbl) (p : Int × Int) : Tbl := match dget acc p.1 with | some u => dput acc p.1 (u + p.2) | none => dput acc p.1 p.2
noncomputable def addT (a b : Tbl) : Tbl := b.foldl add1 (copyT a [])

/-- a def's place -/
structure FnAt (K : PM) (k : Nat) (a : Addr) : Prop where
  at_ : ∃ o pm cd doc, K a = some o ∧ o.data = .func (fdAt k pm cd doc) ∧ ∀ h, Sub K h → h.CodeRec cd (nameOf (stm k))

section
variable {w : World} {K : PM} {gl : List (Str × Value)} {pm cd doc : Value} {L a : Addr} {r : Nat}

theorem int_key : ∀ k X h v, (intKind PW w).is k v = true → (TInt k).p X h v := fun k X h v hk => Value.isInt_shape hk

noncomputable def NK {K α : Type} (t : List (K × α)) : Prop := (t.map (·.1)).Nodup
theorem dget_at {K α : Type} [DecidableEq K] : ∀ {t : List (K × α)} {i : Nat} {k : K} {v : α}, NK t → t[i]? = some (k, v) → dget t k = some v
  | (k₀, v₀) :: t, 0, k, v, _, h => by
    simp at h; obtain ⟨rfl, rfl⟩ := h; simp [dget]
  | (k₀, v₀) :: t, i + 1, k, v, hn, h => by
    have h' : t[i]? = some (k, v) := by simpa using h
    have hn' : NK t := (List.nodup_cons.mp hn).2
    have hne : k₀ ≠ k := by
      rintro rfl
      exact (List.nodup_cons.mp hn).1 (List.mem_map.mpr ⟨_, List.mem_of_getElem? h', rfl⟩)
    have := dget_at hn' h'
    unfold dget at this ⊢
    simpa [hne] using this
  | [], i, k, v, _, h => by simp at h

theorem ev_max2 {env : Env} {ρ : Ctx} {p pos : Pos} {e1 e2 : Expr} {x y : Int} (kf : KF K gl) (h1 : Ev PW w K env r ρ e1 (TInt x)) (h2 : Ev PW w K env r ρ e2 (TInt y)) (hgl : env.globals = mainGlobals := by rfl) (hbl : env.builtins = builtinsNs := by rfl) (hk : env.scope.kind = .function := by rfl)
    (hst : starEach [e1, e2] env = [(false, eval e1 env), (false, eval e2 env)] := by rfl) (hst2 : starEach [e2] env = [(false, eval e2 env)] := by rfl) (hx : env.kindOf "max" = some .globalImplicit := by rfl) (hg : gl.lookup (Str.ofString "max") = none := by rfl) :
    Ev PW w K env r ρ (.Call (.Name "max" p) [e1, e2] [] pos) (TInt (max x y)) := by
  refine ev_call_b kf hgl hbl hk (fv := .builtin "max") (by first | rfl | decide +kernel) (by intro a h; cases h) (evl_cons h1 (evl_cons h2 evl_nil hst2) (by rw [hst, hst2])) ?_ hx hg
  intro X hh vs pv
  obtain ⟨v, v', rfl, p1, p2⟩ := vs2 pv
  exact vl_max2 p1 p2

theorem x_raised {tab : Tbl} {need : Int} (kf : KF K gl) (hmax : gl.lookup (Str.ofString "max") = none) (hn : NK tab) (hsz : tab.length ≤ 1000) :
    Ex PW w K (envAt 23 pm cd doc L a) r [("need", .imm (TInt need)), ("table", .imm (TD w tab))] (bodyOf (stm 23)) (.ret (TD w (raisedT tab need))) := by
  have hl : ∀ i, (raise1 tab need |> fun f => (tab.take i).foldl f []).length ≤ i := by
    intro i
    induction i with
    | zero => simp
    | succ i ih =>
      rw [List.take_add_one]
      cases h : tab[i]? with
      | none => simp at ih ⊢; lia
      | some p =>
        simp only [Option.toList_some, List.foldl_append, List.foldl_cons, List.foldl_nil]
        have := dput_len ((tab.take i).foldl (raise1 tab need) []) (max p.1 need) ((dget ((tab.take i).foldl (raise1 tab need) []) (max p.1 need)).getD 0 + p.2)
        unfold raise1 at *
        simp only at ih
        lia
  refine ex_cons (exs_new_dict (intKind PW w) kf canLocal) ?_
  refine ex_cons (exs_for (Ps := (tv tab).map fun kv => TInt kv.1) (O := .next [("raised", .ownD (intKind PW w) (tv (raisedT tab need))), ("need", .imm (TInt need)), ("table", .imm (TD w tab))])
    (fun i => [("raised", .ownD (intKind PW w) (tv ((tab.take i).foldl (raise1 tab need) []))), ("need", .imm (TInt need)), ("table", .imm (TD w tab))]) tab.length canLocal ?_ ?_ ?_ ?_) ?_
  · exact it_keys (TK := TInt) ev_v int_key
  · simp [tv]
  · intro i P hi hP
    obtain ⟨p, hp⟩ : ∃ p, tab[i]? = some p := ⟨_, List.getElem?_eq_getElem hi⟩
    obtain ⟨pk, pv⟩ := p
    have : P = TInt pk := by
      simp [tv, hp] at hP; exact hP.symm
    subst this
    refine ex_cons (exs_assign canLocal (ev_max2 kf ev_v ev_v (hg := hmax))) ?_
    refine ex_cons (exs_put (k := max pk need) rfl rfl (ev_add (ev_get2 (k := max pk need) (P := TInt ((dget ((tab.take i).foldl (raise1 tab need) []) (max pk need)).getD 0)) ev_oD ev_v ev_int key_int ?_) (ev_item_dict (k := pk) (P := TInt pv) (dOf ev_v) ev_v key_int ?_)) ev_v key_int ?_) ?_
    · intro X h v
      rw [tv_get]
      constructor
      · intro q hq hp
        rw [Option.map_eq_some_iff] at hq
        obtain ⟨z, hz, rfl⟩ := hq
        rw [hz]; exact hp
      · intro hq hp
        rw [Option.map_eq_none_iff] at hq
        rw [hq]; exact hp
    · rw [tv_get, dget_at hn hp]; rfl
    · have := hl i; simp only at this; rw [tv_len]; rw [sizeLine_eq]; lia
    · refine ex_less ex_nil (less ⟨?_, rfl, rfl, trivial⟩)
      rw [List.take_add_one, hp]
      simp only [Option.toList_some, List.foldl_append, List.foldl_cons, List.foldl_nil]
      rw [raise1, ← tv_put]; rfl
  · refine .inl ⟨by simp [tv], ?_⟩
    rw [List.take_length]; rfl
  · exact ex_freeze (x := "raised") rfl (ex_ret (exs_return ev_v))
end
end Mine

namespace Mine
open PySem PySem.Calls

/-- the module's names -/
noncomputable def GL : List (Str × Value) := [("add_callers", .ref 66), ("count_calls", .ref 73), ("TupleComp", .ref 55), ("_DIV_LIMIT", .int 4000 348), ("_div2n1n", .ref 80), ("_div3n2n", .ref 87), ("_int2digits", .ref 94), ("_digits2int", .ref 101),
  ("_divmod_pos", .ref 108), ("int_divmod", .ref 115), ("Error", .ref 125), ("error_reply", .ref 138), ("error_proto", .ref 150), ("parse229", .ref 159), ("_quoted", .ref 164), ("_paren_depth", .ref 172), ("_law_text", .ref 177),
  ("_law_raised", .ref 184), ("_law_readings", .ref 189), ("_law_bounds", .ref 194), ("law", .ref 199), ("_sre", .ref 12)]

section
variable {w : World} {K : PM} {pm cd doc : Value} {L a : Addr} {r : Nat} {env : Env} {ρ : Ctx}

theorem cb1 {f : Str} {p pos : Pos} {e : Expr} {fv : Value} {Pa P : WV} (kf : KF K GL) (hb : bootBuiltins f = some fv) (hf : ∀ a, fv ≠ .ref a) (ha : Ev PW w K env r ρ e Pa)
    (h : ∀ X hh v, Pa.p X hh v → Vl PW w K r X hh (call fv [v]) (fun v h' => P.p X h' v))
    (hst : starEach [e] env = [(false, eval e env)] := by rfl)
    (hgl : env.globals = mainGlobals := by rfl) (hbl : env.builtins = builtinsNs := by rfl) (hk : env.scope.kind = .function := by rfl) (hx : env.kindOf f = some .globalImplicit := by rfl) (hg : GL.lookup f = none := by rfl) (hs : f ∉ startupNames := by decide) (hn : f ≠ "__name__" := by decide)
    (hd : (f == ("__debug__" : Str)) = false := by decide) : Ev PW w K env r ρ (.Call (.Name f p) [e] [] pos) P :=
  ev_call_b kf hgl hbl hk hb hf (evl_cons ha evl_nil hst) (fun X hh vs pv => by
    obtain ⟨v, rfl, p⟩ := vs1 pv
    exact h X hh v p) hx hg hs hn hd
theorem cb2 {f : Str} {p pos : Pos} {e e' : Expr} {fv : Value} {Pa Pb P : WV} (kf : KF K GL) (hb : bootBuiltins f = some fv) (hf : ∀ a, fv ≠ .ref a) (ha : Ev PW w K env r ρ e Pa) (ha' : Ev PW w K env r ρ e' Pb)
    (h : ∀ X hh v v', Pa.p X hh v → Pb.p X hh v' → Vl PW w K r X hh (call fv [v, v']) (fun v h' => P.p X h' v))
    (hst : starEach [e, e'] env = [(false, eval e env), (false, eval e' env)] := by rfl) (hst2 : starEach [e'] env = [(false, eval e' env)] := by rfl)
    (hgl : env.globals = mainGlobals := by rfl) (hbl : env.builtins = builtinsNs := by rfl) (hk : env.scope.kind = .function := by rfl) (hx : env.kindOf f = some .globalImplicit := by rfl) (hg : GL.lookup f = none := by rfl) (hs : f ∉ startupNames := by decide) (hn : f ≠ "__name__" := by decide)
    (hd : (f == ("__debug__" : Str)) = false := by decide) : Ev PW w K env r ρ (.Call (.Name f p) [e, e'] [] pos) P :=
  ev_call_b kf hgl hbl hk hb hf (evl_cons ha (evl_cons ha' evl_nil hst2) (by rw [hst, hst2])) (fun X hh vs pv => by
    obtain ⟨v, v', rfl, p, p'⟩ := vs2 pv
    exact h X hh v v' p p') hx hg hs hn hd
/-- a built-in name as a value -/
theorem ev_bname {f : Str} {p : Pos} {fv : Value} (kf : KF K GL) (hb : bootBuiltins f = some fv)
    (hgl : env.globals = mainGlobals := by rfl) (hbl : env.builtins = builtinsNs := by rfl) (hk : env.scope.kind = .function := by rfl) (hx : env.kindOf f = some .globalImplicit := by rfl) (hg : GL.lookup f = none := by rfl) (hs : f ∉ startupNames := by decide) (hn : f ≠ "__name__" := by decide)
    (hd : (f == ("__debug__" : Str)) = false := by decide) : Ev PW w K env r ρ (.Name f p) (TVal fun v => v = fv) := by
  intro A s X Q E R k S c
  obtain ⟨mg, hmg, _, hmiss⟩ := kf.glob _ k
  obtain ⟨mb, hmb, hmv⟩ := kf.blt _ k
  exact Calls.Name_function_global hk hx (Calls.loadGlobal_builtin (hgl ▸ hmg) (hmiss f hg hs) (hbl ▸ hmb) ((hmv f hn).trans hb) (c fv s.heap s.toks (fun _ _ q => q) rfl)) hd
/-- a module's name -/
theorem ev_gname {f : Str} {p : Pos} {fv : Value} (kf : KF K GL) (hg : GL.lookup f = some fv)
    (hgl : env.globals = mainGlobals := by rfl) (hk : env.scope.kind = .function := by rfl) (hx : env.kindOf f = some .globalImplicit := by rfl)
    (hd : (f == ("__debug__" : Str)) = false := by decide) : Ev PW w K env r ρ (.Name f p) (TVal fun v => v = fv) := by
  intro A s X Q E R k S c
  obtain ⟨mg, hmg, hval, _⟩ := kf.glob _ k
  exact Calls.Name_function_global hk hx (Calls.loadGlobal_global (hgl ▸ hmg) (hval f _ hg) (c fv s.heap s.toks (fun _ _ q => q) rfl)) hd

theorem pair_at {tab : Tbl} {i : Nat} {P : HV × HV} (h : ((tv tab).map fun kv => (TInt kv.1, kv.2))[i]? = some P) : ∃ k v, tab[i]? = some (k, v) ∧ P = (TInt k, TInt v) := by
  simp only [tv, List.map_map, List.getElem?_map, Option.map_eq_some_iff] at h
  obtain ⟨p, hp, rfl⟩ := h
  exact ⟨p.1, p.2, hp, rfl⟩
theorem foldl_take {α β : Type} (f : β → α → β) (z : β) {l : List α} {i : Nat} {x : α} (h : l[i]? = some x) : (l.take (i + 1)).foldl f z = f ((l.take i).foldl f z) x := by
  rw [List.take_add_one, h]; simp
theorem foldl_len {α K β : Type} [DecidableEq K] (f : List (K × β) → α → List (K × β)) (hf : ∀ acc x, (f acc x).length ≤ acc.length + 1) (z : List (K × β)) (l : List α) : (l.foldl f z).length ≤ z.length + l.length := by
  induction l generalizing z with
  | nil => simp
  | cons x l ih =>
    simp only [List.foldl_cons, List.length_cons]
    have := ih (f z x); have := hf z x; lia
theorem add1_some {acc : Tbl} {k v u : Int} (h : dget acc k = some u) : add1 acc (k, v) = dput acc k (u + v) := by unfold add1; simp only [h]
theorem add1_none {acc : Tbl} {k v : Int} (h : dget acc k = none) : add1 acc (k, v) = dput acc k v := by unfold add1; simp only [h]
theorem add1_len (acc : Tbl) (p : Int × Int) : (add1 acc p).length ≤ acc.length + 1 := by
  unfold add1; split <;> exact dput_len _ _ _

theorem x_add {ta tb : Tbl} (kf : KF K GL) (hsz : ta.length + tb.length ≤ 1000) :
    Ex PW w K (envAt 3 pm cd doc L a) r [("source", .imm (TD w tb)), ("target", .imm (TD w ta))] (bodyOf (stm 3)) (.ret (TD w (addT ta tb))) := by
  refine ex_cons (exs_new_dict (intKind PW w) kf canLocal) ?_
  refine ex_cons (ρ' := [("new_callers", .ownD (intKind PW w) (tv (copyT ta []))), ("source", .imm (TD w tb)), ("target", .imm (TD w ta))]) (exs_for2 (Ps := (tv ta).map fun kv => (TInt kv.1, kv.2))
    (fun i => [("new_callers", .ownD (intKind PW w) (tv (copyT (ta.take i) []))), ("source", .imm (TD w tb)), ("target", .imm (TD w ta))]) ta.length ?_ ?_ ?_ ?_ ?_ ?_) ?_
  · exact canLocal
  · exact canLocal
  · exact it2_items (TK := TInt) ev_v int_key
  · simp [tv]
  · intro i P hi hP
    obtain ⟨k, v, hkv, rfl⟩ := pair_at hP
    refine ex_cons (exs_put (k := k) rfl rfl ev_v ev_v key_int ?_) ?_
    · have := foldl_len (fun (acc : Tbl) (p : Int × Int) => dput acc p.1 p.2) (fun acc x => dput_len acc _ _) [] (ta.take i)
      rw [tv_len, sizeLine_eq]; unfold copyT; simp at this; lia
    · refine ex_less ex_nil (less ⟨?_, rfl, rfl, trivial⟩)
      unfold copyT
      rw [foldl_take _ _ hkv, ← tv_put]; rfl
  · exact .inl ⟨by simp [tv], by rw [List.take_length]⟩
  · refine ex_less (ρ' := [("new_callers", .ownD (intKind PW w) (tv (copyT ta []))), ("source", .imm (TD w tb))]) ?_ (less ⟨rfl, rfl, trivial⟩)
    refine ex_cons (ρ' := [("new_callers", .ownD (intKind PW w) (tv (addT ta tb))), ("source", .imm (TD w tb))]) (exs_for2 (Ps := (tv tb).map fun kv => (TInt kv.1, kv.2))
      (fun i => [("new_callers", .ownD (intKind PW w) (tv ((tb.take i).foldl add1 (copyT ta [])))), ("source", .imm (TD w tb))]) tb.length ?_ ?_ ?_ ?_ ?_ ?_) ?_
    · exact canLocal
    · exact canLocal
    · exact it2_items (TK := TInt) ev_v int_key
    · simp [tv]
    · intro i P hi hP
      obtain ⟨k, v, hkv, rfl⟩ := pair_at hP
      have hln : (tv ((tb.take i).foldl add1 (copyT ta []))).length ≤ sizeLine := by
        have h1 := foldl_len (fun (acc : Tbl) (p : Int × Int) => dput acc p.1 p.2) (fun acc x => dput_len acc _ _) [] ta
        have h2 := foldl_len add1 add1_len (copyT ta []) (tb.take i)
        have h3 : (tb.take i).length ≤ tb.length := by rw [List.length_take]; lia
        unfold copyT at *
        rw [tv_len, sizeLine_eq]; simp at h1; lia
      refine ex_cons (O := .next _) (exs_if (O := .next [("new_callers", .ownD (intKind PW w) (tv ((tb.take (i + 1)).foldl add1 (copyT ta [])))), ("source", .imm (TD w tb))]) (tst_inD (k := k) ev_v ev_oD key_int) (fun hin => ?_) (fun hin => ?_)) ex_nil
      · rw [tv_get, Option.isSome_map] at hin
        obtain ⟨u, hu⟩ := Option.isSome_iff_exists.mp hin
        refine ex_cons (exs_if (c := false) (tst_bool (cb2 (fv := .builtin "isinstance") (Pb := TVal fun v => v = .type "tuple") (P := TBool false) kf (by first | rfl | decide +kernel) (by intro a h; cases h) ev_v (ev_bname kf (by first | rfl | decide +kernel)) (fun X hh v v' p p' => by
          cases p'; exact vl_isi p))) (fun h => by cases h) (fun _ => ?_)) ex_nil
        refine ex_out (ex_cons (exs_augput (k := k) (P := TInt u) (P₃ := TInt (u + v)) rfl rfl rfl key_int (by rw [tv_get, hu]; rfl) ev_v hln fun X hh va vb p q => vl_iadd p q) ex_nil) (less ⟨?_, rfl, trivial⟩)
        rw [foldl_take _ _ hkv, add1_some hu, ← tv_put]; rfl
      · rw [tv_get, Option.isSome_map] at hin
        refine ex_out (ex_cons (exs_put (k := k) rfl rfl ev_v ev_v key_int hln) ex_nil) (less ⟨?_, rfl, trivial⟩)
        have hno : dget ((tb.take i).foldl add1 (copyT ta [])) k = none := by
          cases h : dget ((tb.take i).foldl add1 (copyT ta [])) k with
          | none => rfl
          | some u => rw [h] at hin; cases hin
        rw [foldl_take _ _ hkv, add1_none hno, ← tv_put]; rfl
    · exact .inl ⟨by simp [tv], by rw [List.take_length]; rfl⟩
    · exact ex_freeze (x := "new_callers") rfl (ex_ret (exs_return ev_v))
end
end Mine

namespace Mine
open PySem PySem.Calls PySem.W

section
variable {prog : Program} {w : World} {K : PM} {env : Env} {r : Nat} {ρ : Ctx}
theorem it2_list {e : Expr} {Ps : List (HV × HV)} (he : Ev prog w K env r ρ e (TList (Ps.map fun p => TTup [p.1, p.2]))) : It2 prog w K env r ρ e Ps := by
  intro A s X Q E R k S c
  refine he A s X _ _ R k S ?_
  rintro v h₁ t₁ k₁ ⟨⟨a, rfl, hX⟩, a', vs, n, e', ho, hi⟩
  cases e'
  have hi' := All2.map_left.mp hi
  have hlen : Ps.length = vs.size := by rw [hi'.length]; simp
  have ex : ∀ j, ∃ (t : Addr) (u v : Value), j < vs.size → vs[j]? = some (.ref t) ∧ ¬ X t ∧ h₁.IsTuple t #[u, v] ∧ ∀ P, Ps[j]? = some P → P.1.p X h₁ u ∧ P.2.p X h₁ v := by
    intro j
    by_cases hj : j < vs.size
    · obtain ⟨P, hP⟩ : ∃ P, Ps[j]? = some P := ⟨_, List.getElem?_eq_getElem (hlen ▸ hj)⟩
      obtain ⟨val, hval, ⟨t, rfl, hXt⟩, t', us, m, e2, ho2, hu⟩ := hi'.at hP
      cases e2
      obtain ⟨l⟩ := us
      obtain ⟨u, v, rfl, p1, p2⟩ := vs2 hu
      refine ⟨t, u, v, fun _ => ⟨by simpa using hval, hXt, ⟨_, ho2, rfl, m, rfl⟩, fun P' hP' => ?_⟩⟩
      rw [hP] at hP'; cases hP'; exact ⟨p1, p2⟩
    · exact ⟨0, .none, .none, fun q => absurd q hj⟩
  let Ts := fun j => (ex j).choose
  let U := fun j => (ex j).choose_spec.choose
  let V := fun j => (ex j).choose_spec.choose_spec.choose
  have sp : ∀ j, j < vs.size → vs[j]? = some (.ref (Ts j)) ∧ ¬ X (Ts j) ∧ h₁.IsTuple (Ts j) #[U j, V j] ∧ ∀ P, Ps[j]? = some P → P.1.p X h₁ (U j) ∧ P.2.p X h₁ (V j) := fun j => (ex j).choose_spec.choose_spec.choose_spec
  have lt : ∀ j, j < vs.size → Ts j < h₁.objs.size := fun j hj => by
    obtain ⟨_, _, ⟨o, ho, _⟩, _⟩ := sp j hj
    exact Heap.lt_size ho
  refine wpAny_pyIter_list ⟨_, ho, rfl, n, rfl⟩ (c _ _ _ (fun b o q => Heap.get?_push_of_some _ (k₁ b o q)) ⟨.two hlen rfl S.1 k₁ ho hX ((List.range vs.size).map Ts) ?_
    (fun A' hA => walksU (WalksU.listOfTuples hA h₁.objs.size a (Nat.ne_of_lt (Heap.lt_size ho)) vs Ts (fun j => #[U j, V j]) (fun j hj => (sp j hj).1) (fun j hj => Nat.ne_of_lt (lt j hj)))) ?_ ?_ ?_⟩)
  · intro b hb
    obtain ⟨j, hj, rfl⟩ := List.mem_map.mp hb
    obtain ⟨_, h2, ⟨o, ho, _⟩, _⟩ := sp j (List.mem_range.mp hj)
    exact ⟨liveAt ho, h2⟩
  · refine ⟨⟨_, Heap.get?_push_size _ rfl, rfl, rfl⟩, ⟨_, Heap.get?_push_of_some _ ho, rfl, n, rfl⟩, fun k hk => ?_⟩
    obtain ⟨_, _, ⟨o, ho, hr⟩, _⟩ := sp k hk
    exact ⟨o, Heap.get?_push_of_some _ ho, hr⟩
  · rintro i h' ⟨⟨o, e, _⟩, _⟩; exact liveAt e
  · rintro i vv P hP rfl
    have hi : i < vs.size := by have := (List.getElem?_eq_some_iff.mp hP).1; omega
    obtain ⟨p1, p2⟩ := (sp i hi).2.2.2 P hP
    exact ⟨_, _, rfl, p1, p2⟩
end

/-! ### TupleComp -/
/-- an object with the one field -/
noncomputable def TOrd (C : Addr) (Ps : List (HV × HV)) : HV where
  p X h v := ∃ x dx od l, v = .ref x ∧ ¬ X x ∧ ¬ X dx ∧ h.get? x = some (instObj C dx) ∧ h.get? dx = some od ∧ lookIn "comp_select_list" od = some (some (.ref l)) ∧ lookIn "compare" od = some none ∧ (TList (Ps.map fun p => TTup [p.1, p.2])).p X h (.ref l)
  frame := by
    rintro X h h' v k ⟨x, dx, od, l, rfl, h1, h2, h3, h4, h5, h6, h7⟩
    exact ⟨x, dx, od, l, rfl, h1, h2, k _ _ h1 h3, k _ _ h2 h4, h5, h6, (TList (Ps.map fun p => TTup [p.1, p.2])).frame k h7⟩
  refr := by
    rintro X X' h v k ⟨x, dx, od, l, rfl, h1, h2, h3, h4, h5, h6, h7⟩
    refine ⟨x, dx, od, l, rfl, fun q => ?_, fun q => ?_, h3, h4, h5, h6, (TList (Ps.map fun p => TTup [p.1, p.2])).refr k h7⟩
    · rcases k x q with q | q
      · exact h1 q
      · rw [h3] at q; cases q
    · rcases k dx q with q | q
      · exact h2 q
      · rw [h4] at q; cases q

/-- what is asked of the class -/
structure ClsOk (KK : Frag) (C fC : Addr) : Prop where
  ga : findIn KK (.ref C) "__getattribute__" = some (some (.builtin "object.__getattribute__"))
  gat : findIn KK (.ref C) "__getattr__" = some none
  cmp : findIn KK (.ref C) "compare" = some (some (.ref fC))
  typ : typeIn KK (.ref fC) = some (.type "function")
  obj : ∃ o fd, KK.lookup fC = some o ∧ o.data = .func fd
  find : ∀ od l, lookIn "comp_select_list" od = some (some (.ref l)) → findObj KK C (some od) "comp_select_list" = some (.value (.ref l))

noncomputable def clsBodyOf : Stmt → List Stmt
  | .ClassDef _ _ _ body .. => body
  | _ => []
noncomputable def cmpStm : Stmt := (clsBodyOf (stm 2)).getD 1 (.Pass default)
noncomputable def initStm : Stmt := (clsBodyOf (stm 2)).getD 0 (.Pass default)
noncomputable def fdQ (st : Stmt) (qual : Str) (pm cd doc : Value) : FuncData := { docDef (nameOf st) (paramsOf st) (bodyOf st) (scopeOf st) pm cd doc with qualname := qual }
noncomputable abbrev envQ (st : Stmt) (qual : Str) (pm cd doc : Value) (L a : Addr) : Env := callEnvC (fdQ st qual pm cd doc) L a

section
variable {w : World} {K : PM} {pm cd doc : Value} {L a : Addr} {r : Nat} {env : Env} {ρ : Ctx} {KK : Frag} {C fC : Addr}

theorem ev_sel {o : Expr} {pos : Pos} {Ps : List (HV × HV)} (hKK : ∀ h, Sub K h → KK.In h) (OK : ClsOk KK C fC) (ho : Ev PW w K env r ρ o (TOrd C Ps))
    (he : eval (.Attribute o "comp_select_list" pos) env = (do
      let ov ← eval o env
      standAt pos.atName
      let r ← holding [ov] (getAttr ov "comp_select_list" true)
      letTemporaryGo o ov r
      pure r) := by with_unfolding_all rfl) :
    Ev PW w K env r ρ (.Attribute o "comp_select_list" pos) (TList (Ps.map fun p => TTup [p.1, p.2])) := by
  intro A s X Q E R k S c
  refine PyProof.Rows.Attribute_any_ (ho A s X _ _ R k S ?_) he
  rintro v h₁ t₁ k₁ ⟨x, dx, od, l, rfl, h1, h2, h3, h4, h5, h6, h7⟩
  have I : InstAt h₁ x (instObj C dx) C (some od) := ⟨h3, rfl, rfl, h4⟩
  exact get_value (s := { s with heap := h₁, toks := t₁ }) (hKK _ (k.keeps k₁)) I OK.ga (OK.find od l h5) rfl (c _ h₁ _ k₁ h7)

theorem ev_cmpCall {o e1 e2 : Expr} {apos pos : Pos} {Ps : List (HV × HV)} {Pa Pb P : WV} (hKK : ∀ h, Sub K h → KK.In h) (OK : ClsOk KK C fC) (ho : Ev PW w K env r ρ o (TOrd C Ps)) (h1 : Ev PW w K env r ρ e1 Pa) (h2 : Ev PW w K env r ρ e2 Pb)
    (hf : Fn PW w K fC r [(TOrd C Ps).w, Pa, Pb] P)
    (hst : starEach [e1, e2] env = [(false, eval e1 env), (false, eval e2 env)] := by rfl) (hst2 : starEach [e2] env = [(false, eval e2 env)] := by rfl)
    (hbase : attributeBase o "compare" env (eval o env) = eval o env := by rfl) (hline : (apos.endLine == pos.line) = true := by rfl) :
    Ev PW w K env r ρ (.Call (.Attribute o "compare" apos) [e1, e2] [] pos) P := by
  intro A s X Q E R k S c
  rw [arm_eval_Call, hbase]
  refine wpAny_bind (ho A s X _ _ R k S ?_)
  intro v h₁ t₁ k₁ po
  have po' := po
  obtain ⟨x, dx, od, l, rfl, q1, q2, q3, q4, q5, q6, q7⟩ := po
  have I : InstAt h₁ x (instObj C dx) C (some od) := ⟨q3, rfl, rfl, q4⟩
  have X₁ := hKK _ (k.keeps k₁)
  obtain ⟨fo, fd, hfo, hfd⟩ := OK.obj
  refine wpAny_bind (wpAny_standAt ?_)
  have hform : methodCallForm ([e1, e2].length + ([] : List Keyword).length) (backTo pos (starEach [e1, e2] env)) (backToKw pos (keywordEach [] env)) = true := by rw [hst]; rfl
  have hpos : methodCallPos true o env apos pos = pure pos := by unfold methodCallPos; simp [hline]
  unfold methodCall
  rw [hform]
  refine wpAny_bind (wpAny_holding (method_fn (s := { s with heap := h₁, toks := t₁ }) X₁ I OK.ga OK.gat OK.cmp OK.typ (by show (lookIn "compare" od).map (·.isSome) = some false; exact congrArg (Option.map _) q6) ?_))
  refine wpAny_bind (wpAny_of_eq hpos ?_)
  have hargs := evl_cons (pos := pos) h1 (evl_cons h2 evl_nil hst2) (by rw [hst, hst2])
  refine Calls.callWith_function (o := fo) (fd := fd) (evalArgs_trees hargs.plain (hargs.run A _ X _ _ R (k.keeps k₁) (S.keeps k₁) fun vs h₂ t₂ k₂ pv => ⟨⟨k₂ _ _ (X₁ _ _ hfo), hfd⟩, ?_⟩))
  exact hf A _ X (.ref x :: vs) Q E R ((k.keeps k₁).keeps k₂) (there_keeps (there_keeps S.1 k₁) k₂) ⟨(TOrd C Ps).w.mono k₂ po', pv⟩ fun v h'' tk' kp' p => c v h'' tk' (fun b o q => kp' b o (k₂ b o (k₁ b o q))) p

/-- the order of pairs: first up to sign a, then b -/
noncomputable def cmpP (a b : Int) (p q : Int × Int) : Int := if p.1 < q.1 then -a else if q.1 < p.1 then a else if p.2 < q.2 then -b else if q.2 < p.2 then b else 0

theorem x_cmp {d1 d2 : Int} {p q : Int × Int} (hKK : ∀ h, Sub K h → KK.In h) (OK : ClsOk KK C fC) :
    Ex PW w K (envQ cmpStm "TupleComp.compare" pm cd doc L a) r [("right", .imm (TTup [TInt q.1, TInt q.2])), ("left", .imm (TTup [TInt p.1, TInt p.2])), ("self", .imm (TOrd C [(TInt 0, TInt d1), (TInt 1, TInt d2)]))] (bodyOf cmpStm) (.ret (TInt (cmpP d1 d2 p q))) := by
  let base : Ctx := [("right", .imm (TTup [TInt q.1, TInt q.2])), ("left", .imm (TTup [TInt p.1, TInt p.2])), ("self", .imm (TOrd C [(TInt 0, TInt d1), (TInt 1, TInt d2)]))]
  have hx : ∀ (j : Nat) (d x y : Int), ([TInt p.1, TInt p.2] : List HV)[j]? = some (TInt x) → ([TInt q.1, TInt q.2] : List HV)[j]? = some (TInt y) → j < 2 → ∀ O, ((x < y ∧ O = .ret (TInt (-d))) ∨ (¬ x < y ∧ y < x ∧ O = .ret (TInt d)) ∨ (x = y ∧ O = .next base)) →
      Ex PW w K (envQ cmpStm "TupleComp.compare" pm cd doc L a) r (("direction", .imm (TInt d)) :: ("index", .imm (TInt j)) :: base) (match (bodyOf cmpStm).head? with | some (.For _ _ b _ _) => b | _ => []) O := by
    intro j d x y hl hr hj O hO
    refine ex_cons (exs_assign (P := TInt x) canLocal (ev_item_tup (k := (j : Int)) (lOf ev_v) ev_v (by omega) (by simpa using hl) (by omega))) ?_
    refine ex_cons (exs_assign (P := TInt y) canLocal (ev_item_tup (k := (j : Int)) (lOf ev_v) ev_v (by omega) (by simpa using hr) (by omega))) ?_
    rcases hO with ⟨h1, rfl⟩ | ⟨h1, h2, rfl⟩ | ⟨h1, rfl⟩
    · refine ex_ret (exs_if (c := true) (tst_cast (tst_lt ev_v ev_v) (by simpa using h1)) (fun _ => ?_) (fun h => by cases h))
      exact ex_ret (exs_return (ev_neg ev_v))
    · refine ex_cons (exs_if (c := false) (tst_cast (tst_lt ev_v ev_v) (by simpa using h1)) (fun h => by cases h) (fun _ => ex_nil)) ?_
      refine ex_ret (exs_if (c := true) (tst_cast (tst_gt ev_v ev_v) (by simpa using h2)) (fun _ => ?_) (fun h => by cases h))
      exact ex_ret (exs_return ev_v)
    · subst h1
      refine ex_cons (exs_if (c := false) (tst_cast (tst_lt ev_v ev_v) (by simp)) (fun h => by cases h) (fun _ => ex_nil)) ?_
      refine ex_out (ex_cons (exs_if (c := false) (tst_cast (tst_gt ev_v ev_v) (by simp)) (fun h => by cases h) (fun _ => ex_nil)) ex_nil) (less ⟨rfl, rfl, rfl, trivial⟩)
  have it : It2 PW w K (envQ cmpStm "TupleComp.compare" pm cd doc L a) r base (match (bodyOf cmpStm).head? with | some (.For _ i _ _ _) => i | _ => .Constant .none 0 default) [(TInt 0, TInt d1), (TInt 1, TInt d2)] :=
    it2_list (ev_sel hKK OK ev_v)
  unfold cmpP
  by_cases h1 : p.1 < q.1
  · rw [if_pos h1]
    refine ex_ret (exs_for2 (fun _ => base) 0 ?_ ?_ it ?_ ?_ (.inr ⟨_, _, rfl, rfl, hx 0 d1 p.1 q.1 rfl rfl (by omega) _ (.inl ⟨h1, rfl⟩)⟩))
    · exact canLocal
    · exact canLocal
    · simp
    · intro i P hi; omega
  · rw [if_neg h1]
    by_cases h2 : q.1 < p.1
    · rw [if_pos h2]
      refine ex_ret (exs_for2 (fun _ => base) 0 ?_ ?_ it ?_ ?_ (.inr ⟨_, _, rfl, rfl, hx 0 d1 p.1 q.1 rfl rfl (by omega) _ (.inr (.inl ⟨h1, h2, rfl⟩))⟩))
      · exact canLocal
      · exact canLocal
      · simp
      · intro i P hi; omega
    · rw [if_neg h2]
      have h3 : p.1 = q.1 := by omega
      by_cases h4 : p.2 < q.2
      · rw [if_pos h4]
        refine ex_ret (exs_for2 (fun _ => base) 1 ?_ ?_ it ?_ ?_ (.inr ⟨_, _, rfl, rfl, hx 1 d2 p.2 q.2 rfl rfl (by omega) _ (.inl ⟨h4, rfl⟩)⟩))
        · exact canLocal
        · exact canLocal
        · simp
        · intro i P hi hP
          obtain rfl : i = 0 := by omega
          cases hP
          exact hx 0 d1 p.1 q.1 rfl rfl (by omega) _ (.inr (.inr ⟨h3, rfl⟩))
      · rw [if_neg h4]
        by_cases h5 : q.2 < p.2
        · rw [if_pos h5]
          refine ex_ret (exs_for2 (fun _ => base) 1 ?_ ?_ it ?_ ?_ (.inr ⟨_, _, rfl, rfl, hx 1 d2 p.2 q.2 rfl rfl (by omega) _ (.inr (.inl ⟨h4, h5, rfl⟩))⟩))
          · exact canLocal
          · exact canLocal
          · simp
          · intro i P hi hP
            obtain rfl : i = 0 := by omega
            cases hP
            exact hx 0 d1 p.1 q.1 rfl rfl (by omega) _ (.inr (.inr ⟨h3, rfl⟩))
        · rw [if_neg h5]
          have h6 : p.2 = q.2 := by omega
          refine ex_cons (ρ' := base) (exs_for2 (fun _ => base) 2 ?_ ?_ it ?_ ?_ (.inl ⟨rfl, rfl⟩)) ?_
          · exact canLocal
          · exact canLocal
          · simp
          · intro i P hi hP
            match i, hi, hP with
            | 0, _, hP => cases hP; exact hx 0 d1 p.1 q.1 rfl rfl (by omega) _ (.inr (.inr ⟨h3, rfl⟩))
            | 1, _, hP => cases hP; exact hx 1 d2 p.2 q.2 rfl rfl (by omega) _ (.inr (.inr ⟨h6, rfl⟩))
          · exact ex_ret (exs_return ev_int)
end
end Mine

namespace Mine
open PySem PySem.Calls PySem.W

/-! ### texts as lists -/
noncomputable def S (l : List Nat) : Str := ⟨l.toArray⟩
theorem S_app (a b : List Nat) : S a ++ S b = S (a ++ b) := by
  show (⟨a.toArray ++ b.toArray⟩ : Str) = ⟨(a ++ b).toArray⟩
  simp
theorem S_len (a : List Nat) : (S a).length = a.length := by show a.toArray.size = _; simp
theorem S_inj {a b : List Nat} (h : S a = S b) : a = b := by
  have : a.toArray = b.toArray := congrArg Str.cps h
  simpa using congrArg Array.toList this
theorem glued_nil : ∀ (ps : List (List Nat)) (acc : Array Nat), (ps.map S).foldl (fun acc p => acc ++ (Str.ofString "").cps ++ p.cps) acc = acc ++ ps.flatten.toArray
  | [], acc => by simp
  | p :: ps, acc => by
    rw [List.map_cons, List.foldl_cons, glued_nil ps]
    have : (Str.ofString "").cps = #[] := by decide +kernel
    rw [this]
    simp [S]
theorem join_nil (ps : List (List Nat)) : Txt.join "" (ps.map S) = S ps.flatten := by
  unfold Txt.join Builtin.Str.glued
  cases ps with
  | nil => rfl
  | cons p ps =>
    simp only [List.map_cons, List.drop_succ_cons, List.drop_zero, List.headD_cons]
    rw [glued_nil]
    simp [S]
theorem joinOk_nil {ps : List (List Nat)} (h : ps.flatten.length ≤ sizeLine) : JoinOk "" (ps.map S) = true := by
  unfold JoinOk Builtin.Str.tooLong
  have go : ∀ (ps : List (List Nat)) (z : Nat), (ps.map S).foldl (fun a p => a + p.length + (Str.ofString "").length) z = z + ps.flatten.length := by
    intro ps
    induction ps with
    | nil => intro z; rfl
    | cons p ps ih =>
      intro z
      rw [List.map_cons, List.foldl_cons, ih, S_len]
      have : (Str.ofString "").length = 0 := by decide +kernel
      rw [this]; simp; lia
  have : ((ps.map S).toArray.foldl (fun a p => a + p.length + (Str.ofString "").length) 0) = ps.flatten.length := by
    rw [List.foldl_toArray]; simpa using go ps 0
  rw [this]
  simpa using h

/-- a group of the text -/
structure Grp where
  par : Int
  head : List Nat
  note : List Nat
  mark : Nat
  port : Nat

noncomputable def digs (n : Nat) : List Nat := (Str.ofString (toString (n : Int))).cps.toList
theorem S_digs (n : Nat) : S (digs n) = Str.ofString (toString (n : Int)) := by unfold S digs; simp
noncomputable def GV (g : Grp) : HV := TTup [TInt g.par, TStr (S g.head), TStr (S g.note), TStr (S [g.mark]), TInt g.port]
noncomputable abbrev GS (G : List Grp) : HV := TList (G.map GV)
noncomputable def parAt (G : List Grp) (k : Nat) : Int := (G[k]?.map (·.par)).getD (-9)
noncomputable def above (k : Nat) : List Nat := (List.range (5 - k)).map (· + (k + 1))
noncomputable def kids (G : List Grp) (k : Nat) : List Nat := (above k).filter fun j => parAt G j = (k : Int)
noncomputable def textL (G : List Grp) : Nat → Nat → List Nat
  | 0, _ => []
  | n + 1, k => match G[k]? with
    | none => []
    | some g => g.head ++ g.note ++ [g.mark] ++ (((kids G k).map (textL G n)).flatten) ++ [g.mark] ++ digs g.port ++ [g.mark] ++ [41]

structure GOk (G : List Grp) : Prop where
  six : G.length = 6
  small : ∀ (k : Nat) (g : Grp), G[k]? = some g → g.head.length ≤ 3 ∧ g.note.length ≤ 4 ∧ g.port < 60
theorem digs_len {n : Nat} (h : n < 60) : (digs n).length ≤ 2 := by
  have : ∀ m, m < 60 → (digs m).length ≤ 2 := by decide +kernel
  exact this n h
theorem kids_len (G : List Grp) (k : Nat) : (kids G k).length ≤ 5 := by
  unfold kids above
  refine Nat.le_trans (List.length_filter_le _ _) ?_
  simp
theorem flat_len {α : Type} (f : α → List Nat) (B : Nat) : ∀ (l : List α), (∀ x ∈ l, (f x).length ≤ B) → ((l.map f).flatten).length ≤ l.length * B
  | [], _ => by simp
  | x :: l, h => by
    have := flat_len f B l fun y hy => h y (List.mem_cons_of_mem _ hy)
    have := h x List.mem_cons_self
    simp only [List.map_cons, List.flatten_cons, List.length_append, List.length_cons, Nat.add_mul]
    lia
theorem text_len {G : List Grp} (ok : GOk G) : ∀ n k, (textL G n k).length ≤ 20 * 7 ^ n
  | 0, k => by simp [textL]
  | n + 1, k => by
    unfold textL
    cases h : G[k]? with
    | none => simp
    | some g =>
      obtain ⟨h1, h2, h3⟩ := ok.small k g h
      have h4 := digs_len h3
      have h5 := flat_len (textL G n) (20 * 7 ^ n) (kids G k) (fun j _ => text_len ok n j)
      have h6 : (kids G k).length * (20 * 7 ^ n) ≤ 5 * (20 * 7 ^ n) := Nat.mul_le_mul_right _ (kids_len G k)
      simp only [List.length_append, List.length_cons, List.length_nil]
      have : 20 * 7 ^ (n + 1) = 7 * (20 * 7 ^ n) := by rw [Nat.pow_succ]; lia
      have hp : 1 ≤ 7 ^ n := Nat.one_le_pow _ _ (by decide)
      lia

theorem above_at {k i : Nat} (h : i < 5 - k) : (above k)[i]? = some (i + (k + 1)) := by
  unfold above
  rw [List.getElem?_map, List.getElem?_range h]; rfl
theorem above_len (k : Nat) : (above k).length = 5 - k := by simp [above]
theorem above_lt {k j : Nat} (h : j ∈ above k) : k < j ∧ j < 6 := by
  unfold above at h
  obtain ⟨i, hi, rfl⟩ := List.mem_map.mp h
  have := List.mem_range.mp hi
  lia

section
variable {w : World} {K : PM} {pm cd doc : Value} {L a : Addr} {r : Nat} {env : Env} {ρ : Ctx}

theorem rangeUp {x y : Int} (hx : 0 ≤ x) (hxy : x ≤ y) (hy : y < 1000) : Builtin.Range.small x y 1 = true ∧ Builtin.Range.rangeSize x y 1 = ((y - x).toNat : Nat) := by
  refine ⟨small_one (by lia) (by lia) (by lia) (by lia), ?_⟩
  rw [rangeSize_one]
  split <;> lia
/-- range(k + 1, 6) -/
theorem it_above {p pos : Pos} {e1 e2 : Expr} {k : Nat} (kf : KF K GL) (hk : k < 6) (h1 : Ev PW w K env r ρ e1 (TInt ((k : Int) + 1))) (h2 : Ev PW w K env r ρ e2 (TInt 6))
    (hgl : env.globals = mainGlobals := by rfl) (hbl : env.builtins = builtinsNs := by rfl) (hkd : env.scope.kind = .function := by rfl)
    (hst : starEach [e1, e2] env = [(false, eval e1 env), (false, eval e2 env)] := by rfl) (hst2 : starEach [e2] env = [(false, eval e2 env)] := by rfl) (hx : env.kindOf "range" = some .globalImplicit := by rfl) :
    It PW w K env r ρ (.Call (.Name "range" p) [e1, e2] [] pos) (((above k).map fun j => ((j : Nat) : Int)).map TInt) := by
  have hr := rangeUp (x := (k : Int) + 1) (y := 6) (by lia) (by lia) (by lia)
  refine it_range (ev_range2 kf hgl hbl hkd h1 h2 hst hst2 hx rfl) hr.1 ?_ ?_
  · rw [hr.2, List.length_map, above_len]; lia
  · intro i v hv
    rw [List.getElem?_map, Option.map_eq_some_iff] at hv
    obtain ⟨j, hj, rfl⟩ := hv
    have hi : i < 5 - k := by have := (List.getElem?_eq_some_iff.mp hj).1; rwa [above_len] at this
    rw [above_at hi] at hj
    cases hj
    lia

theorem fs_filter {α : Type} (p : α → Bool) (f : α → HV) : ∀ (l : List α), (l.map fun j => if p j then some (f j) else none).filterMap id = (l.filter p).map f
  | [] => rfl
  | x :: l => by
    by_cases h : p x = true
    · simp [h, fs_filter p f l]
    · simp [h, fs_filter p f l]

theorem fs_filterP {α : Type} (p : α → Prop) [DecidablePred p] (f : α → HV) (l : List α) : (l.map fun j => if p j then some (f j) else none).filterMap id = (l.filter fun j => decide (p j)).map f := by
  have := fs_filter (fun j => decide (p j)) f l
  simpa using this
theorem compOk {env : Env} {ρ : Ctx} {scope : Scope} {x : Str} {own : Bool} (h1 : scope.kind = .function := by rfl)
    (h2 : (scope.names.all fun y => y.2 != .free || ((ρ.lookup y.1).isSome && (env.kindOf y.1 == some .cell || env.kindOf y.1 == some .free))) = true := by rfl)
    (h3 : scope.names.lookup x = some (if own then .cell else .local) := by rfl) (h4 : ∀ n cl, cellsFrom n scope.names cl = (if own then [(x, n)] else []) ++ cl := by intro n cl; rfl)
    (h5 : ∀ h, pushCells h scope.names = if own then h.push { cls := .type "cell", data := .cell none } else h := by intro h; rfl)
    (h6 : (scope.names.all fun y => y.2 != .local || scope.names.lookup y.1 == some .local) = true := by rfl) : CompOk env ρ scope x own :=
  ⟨h1, h2, h3, h4, h5, fun y hy hl => by
    have := List.all_eq_true.mp h6 y hy
    rw [hl] at this
    simpa using this⟩

noncomputable def AllCan (env : Env) : List (Str × Pos) → Prop
  | [] => True
  | p :: r => CanStore env p.1 ∧ AllCan env r
theorem allCan {env : Env} : ∀ {l : List (Str × Pos)}, AllCan env l → ∀ p ∈ l, CanStore env p.1
  | [], _, p, hp => by cases hp
  | q :: r, h, p, hp => by
    rcases List.mem_cons.mp hp with rfl | hp
    · exact h.1
    · exact allCan h.2 p hp

theorem x_text {G : List Grp} (kf : KF K GL) (ok : GOk G) {n k : Nat} (hk : k < 6)
    (hrec : ∀ j, k < j → j < 6 → Fn PW w K 177 r [(TInt j).w, (GS G).w] (TStr (S (textL G n j)))) (h177 : ∃ o fd, K 177 = some o ∧ o.data = .func fd) (hn : n ≤ 5) :
    Ex PW w K (envAt 22 pm cd doc L a) r [("groups", .imm (GS G)), ("k", .imm (TInt k))] (bodyOf (stm 22)) (.ret (TStr (S (textL G (n + 1) k)))) := by
  obtain ⟨g, hg⟩ : ∃ g, G[k]? = some g := ⟨_, List.getElem?_eq_getElem (by rw [ok.six]; exact hk)⟩
  obtain ⟨s1, s2, s3⟩ := ok.small k g hg
  have s4 := digs_len s3
  have tl : ∀ j, (textL G n j).length ≤ 20 * 7 ^ n := text_len ok n
  have pw : 7 ^ n ≤ 16807 := Nat.le_trans (Nat.pow_le_pow_right (by decide) hn) (by decide)
  have fl := flat_len (textL G n) (20 * 7 ^ n) (kids G k) (fun j _ => tl j)
  have kl := kids_len G k
  have il : (((kids G k).map (textL G n)).flatten).length ≤ 1680700 := by
    have : (kids G k).length * (20 * 7 ^ n) ≤ 5 * (20 * 16807) := Nat.mul_le_mul kl (Nat.mul_le_mul_left _ pw)
    lia
  obtain ⟨o177, fd177, ho177, hd177⟩ := h177
  refine ex_cons (exs_unpack [("parent", _), ("head", _), ("note", _), ("mark", _), ("port", _)] (Ps := [TInt g.par, TStr (S g.head), TStr (S g.note), TStr (S [g.mark]), TInt g.port]) ?_ rfl (lOf (ev_item_list (P := GV g) (k := (k : Int)) (lOf ev_v) ev_v (by lia) ?_ (by lia)))) ?_
  · exact allCan ⟨canLocal, canLocal, canLocal, canLocal, canLocal, trivial⟩
  · rw [List.getElem?_map, Int.toNat_natCast, hg]; rfl
  refine ex_less (ρ' := [("port", .imm (TInt g.port)), ("mark", .imm (TStr (S [g.mark]))), ("note", .imm (TStr (S g.note))), ("head", .imm (TStr (S g.head))), ("groups", .imm (GS G)), ("k", .imm (TInt k))]) ?_ (less ⟨rfl, rfl, rfl, rfl, rfl, rfl, trivial⟩)
  refine ex_cons (exs_assign (P := TStr (S (((kids G k).map (textL G n)).flatten))) canLocal ?_) ?_
  · refine ev_castS (ev_join (ts := (kids G k).map fun j => S (textL G n j)) ev_str (lOf ?_) ?_) ?_
    · refine ev_cast (ev_comp (own := false) ((above k).map fun j => if parAt G j = (k : Int) then some (TStr (S (textL G n j))) else none) rfl compOk (it_above kf hk (ev_add ev_v ev_int) ev_int) ?_ ?_ ?_ ?_) ?_
      · simp
      · simp [above_len, sizeLine_eq]; lia
      · intro cs C i P f hP hf
        rw [List.getElem?_map, Option.map_eq_some_iff] at hP hf
        obtain ⟨v, hv, rfl⟩ := hP
        rw [List.getElem?_map, Option.map_eq_some_iff] at hv
        obtain ⟨j, hj, rfl⟩ := hv
        obtain ⟨j', hj', rfl⟩ := hf
        rw [hj] at hj'; cases hj'
        have hjl := above_lt (List.mem_of_getElem? hj)
        obtain ⟨gj, hgj⟩ : ∃ g, G[j]? = some g := ⟨_, List.getElem?_eq_getElem (by rw [ok.six]; exact hjl.2)⟩
        refine tst_cast (tst_eq (ev_item_tup (k := 0) (P := TInt (parAt G j)) (Ps := [TInt gj.par, TStr (S gj.head), TStr (S gj.note), TStr (S [gj.mark]), TInt gj.port]) (lOf (ev_item_list (P := GV gj) (k := (j : Int)) (lOf ev_v) ev_v (by lia) ?_ (by lia))) ev_int (by lia) ?_ (by lia)) ev_v) ?_
        · rw [List.getElem?_map, Int.toNat_natCast, hgj]; rfl
        · simp [parAt, hgj]
        · by_cases q : parAt G j = (k : Int) <;> simp [q]
      · intro cs C i P P' hP hf
        rw [List.getElem?_map, Option.map_eq_some_iff] at hP hf
        obtain ⟨v, hv, rfl⟩ := hP
        rw [List.getElem?_map, Option.map_eq_some_iff] at hv
        obtain ⟨j, hj, rfl⟩ := hv
        obtain ⟨j', hj', hf⟩ := hf
        rw [hj] at hj'; cases hj'
        have hjl := above_lt (List.mem_of_getElem? hj)
        split at hf
        · cases hf
          exact ev_fn kf rfl rfl (a := 177) rfl ho177 hd177 (evl_cons ev_v (evl_cons ev_v evl_nil)) (hrec j hjl.1 hjl.2)
        · cases hf
      · rw [fs_filterP (fun j => parAt G j = (k : Int)) (fun j => TStr (S (textL G n j))) (above k), List.map_map]
        rfl
    · have : ((kids G k).map fun j => S (textL G n j)) = ((kids G k).map (textL G n)).map S := by rw [List.map_map]; rfl
      rw [this]
      exact joinOk_nil (by rw [sizeLine_eq]; lia)
    · have : ((kids G k).map fun j => S (textL G n j)) = ((kids G k).map (textL G n)).map S := by rw [List.map_map]; rfl
      rw [this, join_nil]
  · have e41 : Str.ofString ")" = S [41] := by decide +kernel
    have step : ∀ {e1 e2 : Expr} {pos : Pos} {x y : List Nat} {ρ : Ctx}, Ev PW w K (envAt 22 pm cd doc L a) r ρ e1 (TStr (S x)) → Ev PW w K (envAt 22 pm cd doc L a) r ρ e2 (TStr (S y)) → x.length + y.length ≤ 2000000 →
        Ev PW w K (envAt 22 pm cd doc L a) r ρ (.BinOp e1 .Add e2 pos) (TStr (S (x ++ y))) := by
      intro e1 e2 pos x y ρ h1 h2 hl
      refine ev_castS (ev_addS h1 h2 (by rw [S_len, S_len, sizeLine_eq]; lia)) (S_app x y)
    refine ex_ret (exs_return (ev_castS (step (step (step (step (step (step (step ev_v ev_v ?_) ev_v ?_) ev_v ?_) ev_v ?_) (x := _) (y := digs g.port) ?_ ?_) ev_v ?_) (ev_castS ev_str e41) ?_) ?_))
    all_goals first
      | ((try simp only [List.length_append, List.length_cons, List.length_nil]); lia)
      | skip
    · refine ev_castS (x := Str.ofString (toString (g.port : Int))) ?_ (S_digs g.port).symm
      refine cb1 (fv := .type "str") (Pa := TInt g.port) kf ?_ ?_ ?_ ?_
      · first | rfl | decide +kernel
      · intro a h; cases h
      · exact ev_v
      · refine fun X hh v p => vl_strI p ?_
        have h60 : ∀ m, m < 60 → ((m : Nat) : Int).natAbs.log2 < 1920 := by decide +kernel
        exact h60 g.port s3
    · have : textL G (n + 1) k = g.head ++ g.note ++ [g.mark] ++ (((kids G k).map (textL G n)).flatten) ++ [g.mark] ++ digs g.port ++ [g.mark] ++ [41] := by
        conv => lhs; unfold textL
        rw [hg]
      rw [this]
end
end Mine

namespace Mine
open PySem PySem.Calls PySem.W

section
variable {w : World} {K : PM} {r : Nat}

theorem fn_text {G : List Grp} (kf : KF K GL) (F : FnAt K 22 177) (ok : GOk G) : ∀ (n k : Nat), k < 6 → 6 - k ≤ n → n ≤ 6 → Fn PW w K 177 n [(TInt k).w, (GS G).w] (TStr (S (textL G n k))).w
  | 0, k, hk, h, _ => by omega
  | n + 1, k, hk, h, hn => by
    have hrec : ∀ j, k < j → j < 6 → Fn PW w K 177 n [(TInt j).w, (GS G).w] (TStr (S (textL G n j))).w := fun j h1 h2 => fn_text kf F ok n j h2 (by omega) (by omega)
    obtain ⟨o, pm, cd, doc, ho, hd, hc⟩ := F.at_
    exact fn_of_body (ps := [("k", TInt k), ("groups", GS G)]) (P := TStr (S (textL G (n + 1) k))) kf ho hd hc rfl rfl
      (fun vs hv => by obtain ⟨a, b, rfl⟩ := ln2 hv; rfl) (fun L p hp => allCan (l := [("k", default), ("groups", default)]) ⟨canCell, canCell, trivial⟩ (p.1, default) (by
        simp only [List.mem_cons, List.not_mem_nil, or_false] at hp ⊢
        rcases hp with rfl | rfl <;> simp)) (fun L => x_text kf ok hk hrec ⟨o, _, ho, hd⟩ (by omega))

theorem canP {env : Env} {ps : List (Str × HV)} (h : AllCan env (ps.map fun p => (p.1, default))) : ∀ p ∈ ps, CanStore env p.1 := fun p hp =>
  allCan h (p.1, default) (List.mem_map.mpr ⟨p, hp, rfl⟩)

theorem fn_count {t : Tbl} (kf : KF K GL) (F : FnAt K 4 73) : Fn PW w K 73 (r + 1) [(TD w t).w] (TInt (sumFrom 0 (t.map (·.2)))).w := by
  obtain ⟨o, pm, cd, doc, ho, hd, hc⟩ := F.at_
  exact fn_of_body (ps := [("callers", TD w t)]) (P := TInt (sumFrom 0 (t.map (·.2)))) kf ho hd hc rfl rfl (fun vs hv => by obtain ⟨a, rfl⟩ := ln1 hv; rfl) (fun L => canP ⟨canLocal, trivial⟩)
    (fun L => x_count (by simp [tv, List.map_map, Function.comp_def]))
theorem fn_raised {t : Tbl} {need : Int} (kf : KF K GL) (F : FnAt K 23 184) (hn : NK t) (hsz : t.length ≤ 1000) : Fn PW w K 184 (r + 1) [(TD w t).w, (TInt need).w] (TD w (raisedT t need)).w := by
  obtain ⟨o, pm, cd, doc, ho, hd, hc⟩ := F.at_
  exact fn_of_body (ps := [("table", TD w t), ("need", TInt need)]) (P := TD w (raisedT t need)) kf ho hd hc rfl rfl (fun vs hv => by obtain ⟨a, b, rfl⟩ := ln2 hv; rfl) (fun L => canP ⟨canLocal, canLocal, trivial⟩)
    (fun L => x_raised kf rfl hn hsz)
theorem fn_add {ta tb : Tbl} (kf : KF K GL) (F : FnAt K 3 66) (hsz : ta.length + tb.length ≤ 1000) : Fn PW w K 66 (r + 1) [(TD w ta).w, (TD w tb).w] (TD w (addT ta tb)).w := by
  obtain ⟨o, pm, cd, doc, ho, hd, hc⟩ := F.at_
  exact fn_of_body (ps := [("target", TD w ta), ("source", TD w tb)]) (P := TD w (addT ta tb)) kf ho hd hc rfl rfl (fun vs hv => by obtain ⟨a, b, rfl⟩ := ln2 hv; rfl) (fun L => canP ⟨canLocal, canLocal, trivial⟩)
    (fun L => x_add kf hsz)
structure FnQ (K : PM) (st : Stmt) (qual : Str) (a : Addr) : Prop where
  at_ : ∃ o pm cd doc, K a = some o ∧ o.data = .func (fdQ st qual pm cd doc) ∧ ∀ h, Sub K h → h.CodeRec cd qual
theorem fn_cmp {KK : Frag} {C fC : Addr} {d1 d2 : Int} {p q : Int × Int} (kf : KF K GL) (F : FnQ K cmpStm "TupleComp.compare" fC) (hKK : ∀ h, Sub K h → KK.In h) (OK : ClsOk KK C fC) :
    Fn PW w K fC (r + 1) [(TOrd C [(TInt 0, TInt d1), (TInt 1, TInt d2)]).w, (TTup [TInt p.1, TInt p.2]).w, (TTup [TInt q.1, TInt q.2]).w] (TInt (cmpP d1 d2 p q)).w := by
  obtain ⟨o, pm, cd, doc, ho, hd, hc⟩ := F.at_
  exact fn_of_body (ps := [("self", TOrd C [(TInt 0, TInt d1), (TInt 1, TInt d2)]), ("left", TTup [TInt p.1, TInt p.2]), ("right", TTup [TInt q.1, TInt q.2])]) (P := TInt (cmpP d1 d2 p q)) kf ho hd hc rfl rfl (fun vs hv => by obtain ⟨a, b, c, rfl⟩ := ln3 hv; rfl) (fun L => canP ⟨canLocal, canLocal, canLocal, trivial⟩)
    (fun L => x_cmp hKK OK)
end
end Mine

namespace Mine
open PySem PySem.Calls PySem.W

/-! ### recursion over a tree -/
noncomputable def tr {α : Type} (ks : Nat → List Nat) (f : Nat → List α → α) (z : α) : Nat → Nat → α
  | 0, _ => z
  | n + 1, k => f k ((ks k).map (tr ks f z n))
structure Down (ks : Nat → List Nat) : Prop where
  lt : ∀ k j, j ∈ ks k → k < j ∧ j < 6
theorem tr_fuel {α : Type} {ks : Nat → List Nat} {f : Nat → List α → α} {z : α} (D : Down ks) : ∀ n m k, k < 6 → 6 - k ≤ n → 6 - k ≤ m → tr ks f z n k = tr ks f z m k
  | 0, _, k, hk, h, _ => by omega
  | n + 1, 0, k, hk, _, h => by omega
  | n + 1, m + 1, k, hk, h1, h2 => by
    show f k _ = f k _
    congr 1
    apply List.map_congr_left
    intro j hj
    have := D.lt k j hj
    exact tr_fuel D n m j this.2 (by omega) (by omega)
/-- the value at a node -/
noncomputable def at6 {α : Type} (ks : Nat → List Nat) (f : Nat → List α → α) (z : α) (k : Nat) : α := tr ks f z 6 k
theorem at6_eq {α : Type} {ks : Nat → List Nat} {f : Nat → List α → α} {z : α} (D : Down ks) {k : Nat} (hk : k < 6) : at6 ks f z k = f k ((ks k).map (at6 ks f z)) := by
  show f k _ = f k _
  congr 1
  apply List.map_congr_left
  intro j hj
  have := D.lt k j hj
  exact tr_fuel D 5 6 j this.2 (by omega) (by omega)

noncomputable def pAt (P : List Int) (k : Nat) : Int := (P[k]?).getD (-9)
noncomputable def kidsP (P : List Int) (k : Nat) : List Nat := (above k).filter fun j => pAt P j = (k : Int)
theorem kidsP_down (P : List Int) : Down (kidsP P) := ⟨fun k j hj => above_lt (List.mem_filter.mp hj).1⟩

noncomputable def lmax : List Int → Int
  | [] => 0
  | x :: xs => xs.foldl max x
noncomputable def lmin : List Int → Int
  | [] => 0
  | x :: xs => xs.foldl min x
theorem foldmax_ge (x : Int) (xs : List Int) : x ≤ xs.foldl max x ∧ (∀ y ∈ xs, y ≤ xs.foldl max x) ∧ (xs.foldl max x = x ∨ xs.foldl max x ∈ xs) := by
  induction xs generalizing x with
  | nil => simp
  | cons y ys ih =>
    obtain ⟨h1, h2, h3⟩ := ih (max x y)
    simp only [List.foldl_cons]
    refine ⟨by omega, ?_, ?_⟩
    · intro z hz
      rcases List.mem_cons.mp hz with rfl | hz
      · omega
      · exact h2 z hz
    · rcases h3 with h3 | h3
      · rw [h3]
        by_cases q : x ≤ y
        · right; rw [Int.max_eq_right q]; exact List.mem_cons_self
        · left; rw [Int.max_eq_left (by omega)]
      · right; exact List.mem_cons_of_mem _ h3
theorem lmax_mem {l : List Int} (h : l ≠ []) : lmax l ∈ l := by
  cases l with
  | nil => exact absurd rfl h
  | cons x xs =>
    rcases (foldmax_ge x xs).2.2 with q | q
    · show xs.foldl max x ∈ _; rw [q]; exact List.mem_cons_self
    · exact List.mem_cons_of_mem _ q
theorem lmax_ge {l : List Int} {x : Int} (h : x ∈ l) : x ≤ lmax l := by
  cases l with
  | nil => cases h
  | cons y ys =>
    rcases List.mem_cons.mp h with rfl | h
    · exact (foldmax_ge x ys).1
    · exact (foldmax_ge y ys).2.1 x h

section
variable {w : World} {K : PM} {pm cd doc : Value} {L a : Addr} {r : Nat} {env : Env} {ρ : Ctx}

theorem ev_max {e : Expr} {p pos : Pos} {ns : List Int} (kf : KF K GL) (he : Ev PW w K env r ρ e (LSeq "list" (ns.map TInt))) (hne : ns ≠ []) (hst : starEach [e] env = [(false, eval e env)] := by rfl)
    (hgl : env.globals = mainGlobals := by rfl) (hbl : env.builtins = builtinsNs := by rfl) (hk : env.scope.kind = .function := by rfl) (hx : env.kindOf "max" = some .globalImplicit := by rfl) : Ev PW w K env r ρ (.Call (.Name "max" p) [e] [] pos) (TInt (lmax ns)) := by
  refine cb1 (fv := .builtin "max") (Pa := LSeq "list" (ns.map TInt)) kf ?_ ?_ he ?_ hst hgl hbl hk hx
  · first | rfl | decide +kernel
  · intro a h; cases h
  · exact fun X hh v p => vl_max p (lmax_mem hne) fun x hx => lmax_ge hx
theorem ev_sum {e : Expr} {p pos : Pos} {ns : List Int} (kf : KF K GL) (he : Ev PW w K env r ρ e (LSeq "list" (ns.map TInt))) (hst : starEach [e] env = [(false, eval e env)] := by rfl)
    (hgl : env.globals = mainGlobals := by rfl) (hbl : env.builtins = builtinsNs := by rfl) (hk : env.scope.kind = .function := by rfl) (hx : env.kindOf "sum" = some .globalImplicit := by rfl) : Ev PW w K env r ρ (.Call (.Name "sum" p) [e] [] pos) (TInt ns.sum) := by
  refine cb1 (fv := .builtin "sum") (Pa := LSeq "list" (ns.map TInt)) kf ?_ ?_ he ?_ hst hgl hbl hk hx
  · first | rfl | decide +kernel
  · intro a h; cases h
  · exact fun X hh v p => vl_sum p
theorem ev_addL {e1 e2 : Expr} {pos : Pos} {Ps Qs : List HV} (h1 : Ev PW w K env r ρ e1 (LSeq "list" Ps)) (h2 : Ev PW w K env r ρ e2 (LSeq "list" Qs)) (hsz : Ps.length + Qs.length ≤ 1000) : Ev PW w K env r ρ (.BinOp e1 .Add e2 pos) (TList (Ps ++ Qs)) := by
  refine ev_bin h1 h2 ?_
  rintro X hh va vb ⟨a, vs, n, rfl, ho, hi⟩ ⟨b, us, m, rfl, ho2, hi2⟩ A s Q E R e kK hX c
  subst e
  have l1 := hi.length
  have l2 := hi2.length
  simp only [Array.length_toList] at l1 l2
  refine P.add_list (n := n) (n2 := m) ho ho2 (c _ _ _ (fun b o q => Heap.get?_push_of_some _ q) ?_) (by rw [sizeLine_eq]; omega)
  have := seq_new (X := X) (h := s.heap) (cls := "list") (Ps := Ps ++ Qs) (vs := vs.toList ++ us.toList) hX (by
    rw [List.map_append]
    exact All2.append (All2.map_left.mpr hi) (All2.map_left.mpr hi2))
  have e : (vs.toList ++ us.toList).toArray = vs ++ us := by apply Array.ext'; simp
  rw [e] at this
  exact this

/-! ### dicts by node -/
noncomputable def dl (f : Nat → HV) (ks : List Nat) : List (Int × HV) := ks.map fun (k : Nat) => ((k : Int), f k)
theorem dl_get (f : Nat → HV) {ks : List Nat} {k : Nat} : dget (dl f ks) (k : Int) = if k ∈ ks then some (f k) else none := by
  unfold dl dget
  induction ks with
  | nil => simp
  | cons j ks ih =>
    simp only [List.map_cons, List.find?_cons]
    by_cases q : j = k
    · subst q; simp
    · have : ((j : Int) = (k : Int)) ↔ False := ⟨fun h => q (by omega), fun h => h.elim⟩
      simp only [this, decide_false]
      rw [ih]
      simp [Ne.symm q]
theorem dl_put (f : Nat → HV) {ks : List Nat} {k : Nat} (h : k ∉ ks) : dput (dl f ks) (k : Int) (f k) = dl f (ks ++ [k]) := by
  rw [dput_new (by rw [dl_get, if_neg h])]
  simp [dl]
noncomputable def done (i : Nat) : List Nat := (List.range i).map (5 - ·)
theorem done_succ (i : Nat) : done (i + 1) = done i ++ [5 - i] := by simp [done, List.range_succ]
theorem mem_done {i j : Nat} (hi : i ≤ 6) : j ∈ done i ↔ 6 ≤ i + j ∧ j < 6 := by
  unfold done
  simp only [List.mem_map, List.mem_range]
  constructor
  · rintro ⟨x, hx, rfl⟩; omega
  · intro h; exact ⟨5 - j, by omega, by omega⟩
theorem done_len (i : Nat) : (done i).length = i := by simp [done]

/-! ### what _law_bounds counts -/
noncomputable def szF (k : Nat) (l : List Int) : Int := 1 + l.sum
noncomputable def tipF (k : Nat) (l : List Int) : Int := max 1 l.sum
/-- how many stand ahead of the row -/
noncomputable def aheadN (d : Int) (rows : List (Int × Int)) (p : Int × Int) : Int := ((rows.filter fun q => cmpP (-1) d q p < 0).length : Nat)
noncomputable def waitsL (d : Int) (rows : List (Int × Int)) : List Int := rows.map fun p => p.1 + aheadN d rows p
noncomputable def lstF (ks : Nat → List Nat) (R : List Int) (d : Int) (k : Nat) (l : List Int) : Int := lmax ((((ks k).length : Int) + pAt R k) :: waitsL d (l.zip ((ks k).map fun (j : Nat) => (j : Int))))

noncomputable def szK (P : List Int) (k : Nat) : Int := at6 (kidsP P) szF 0 k
noncomputable def tipK (P : List Int) (k : Nat) : Int := at6 (kidsP P) tipF 0 k
noncomputable def lstK (P R : List Int) (d : Int) (k : Nat) : Int := at6 (kidsP P) (lstF (kidsP P) R d) 0 k
noncomputable def rowsK (P R : List Int) (d : Int) (k : Nat) : List (Int × Int) := (kidsP P k).map fun (j : Nat) => (lstK P R d j, (j : Int))
theorem szK_eq {P : List Int} {k : Nat} (hk : k < 6) : szK P k = 1 + ((kidsP P k).map (szK P)).sum := at6_eq (kidsP_down P) hk
theorem tipK_eq {P : List Int} {k : Nat} (hk : k < 6) : tipK P k = max 1 ((kidsP P k).map (tipK P)).sum := at6_eq (kidsP_down P) hk
theorem zip_map {α β γ : Type} (f : α → β) (g : α → γ) : ∀ l : List α, (l.map f).zip (l.map g) = l.map fun x => (f x, g x)
  | [] => rfl
  | x :: l => by simp [zip_map f g l]
theorem lstK_eq {P R : List Int} {d : Int} {k : Nat} (hk : k < 6) : lstK P R d k = lmax ((((kidsP P k).length : Int) + pAt R k) :: waitsL d (rowsK P R d k)) := by
  have := at6_eq (f := lstF (kidsP P) R d) (z := (0 : Int)) (kidsP_down P) hk
  unfold lstK
  rw [this]
  unfold lstF rowsK
  rw [zip_map]
  rfl
noncomputable def hooksL (P : List Int) (ks : List Nat) : Int := ks.foldl (fun z k => z * szK P k) 1
noncomputable def mostK (P R : List Int) : Int := lmax ((List.range 6).map fun k => ((kidsP P k).length : Int) + pAt R k + tipK P 0 - tipK P k)
theorem sz_bound (P : List Int) : ∀ n k, 0 ≤ tr (kidsP P) szF 0 n k ∧ tr (kidsP P) szF 0 n k ≤ 7 ^ n
  | 0, k => by simp [tr]
  | n + 1, k => by
    have hl : (kidsP P k).length ≤ 5 := by
      unfold kidsP
      refine Nat.le_trans (List.length_filter_le _ _) ?_
      rw [above_len]; omega
    have go : ∀ l : List Nat, 0 ≤ (l.map (tr (kidsP P) szF 0 n)).sum ∧ (l.map (tr (kidsP P) szF 0 n)).sum ≤ l.length * 7 ^ n := by
      intro l
      induction l with
      | nil => simp
      | cons x l ih =>
        have := sz_bound P n x
        simp only [List.map_cons, List.sum_cons, List.length_cons]
        push_cast
        rw [Int.add_mul]
        omega
    have := go (kidsP P k)
    have h2 : ((kidsP P k).length : Int) * 7 ^ n ≤ 5 * 7 ^ n := Int.mul_le_mul_of_nonneg_right (by omega) (Int.pow_nonneg (by decide))
    have hp : (1 : Int) ≤ 7 ^ n := by
      have : 1 ≤ (7 : Nat) ^ n := Nat.one_le_pow _ _ (by decide)
      exact_mod_cast this
    show 0 ≤ 1 + _ ∧ 1 + _ ≤ _
    rw [Int.pow_succ]
    omega
theorem szK_bound (P : List Int) (k : Nat) : 0 ≤ szK P k ∧ szK P k ≤ 117649 := sz_bound P 6 k
end
end Mine

namespace Mine
open PySem PySem.Calls PySem.W

theorem mapSome {α : Type} (f : α → HV) (l : List α) : (l.map fun j => some (f j)).filterMap id = l.map f := by
  induction l with
  | nil => rfl
  | cons x l ih => simp [ih]

section
variable {w : World} {K : PM} {pm cd doc : Value} {L a : Addr} {r : Nat} {KK : Frag} {C fC : Addr}

noncomputable def bx (w : World) (C : Addr) (P R : List Int) (d : Int) (k : Int) (rt sz tp ls : List Nat) (hk : Int) : Ctx :=
  [("k", .imm (TInt k)), ("hooks", .imm (TInt hk)), ("right", .ownD (intKind PW w) (dl (fun k => TList ((kidsP P k).map fun (j : Nat) => TInt j)) rt)), ("sizes", .ownD (intKind PW w) (dl (fun k => TInt (szK P k)) sz)),
   ("tips", .ownD (intKind PW w) (dl (fun k => TInt (tipK P k)) tp)), ("least", .ownD (intKind PW w) (dl (fun k => TInt (lstK P R d k)) ls)),
   ("order", .imm (TOrd C [(TInt 0, TInt (-1)), (TInt 1, TInt d)])), ("rooms", .imm (TList (R.map TInt))), ("parents", .imm (TList (P.map TInt)))]
theorem eqD {f : Nat → HV} {ks : List Nat} {k : Nat} (h : k ∉ ks) : some (Ent.ownD (intKind PW w) (dput (dl f ks) (k : Int) (f k))) = some (Ent.ownD (intKind PW w) (dl f (ks ++ [k]))) := by rw [dl_put f h]

theorem kids_pos {P : List Int} {k : Nat} : (kidsP P k).length ≤ 5 := by
  unfold kidsP
  refine Nat.le_trans (List.length_filter_le _ _) ?_
  rw [above_len]; lia
theorem kid_lt {P : List Int} {k j : Nat} (h : j ∈ kidsP P k) : k < j ∧ j < 6 := (kidsP_down P).lt k j h
theorem kid_at {P : List Int} {k i : Nat} {Pj : HV} (h : ((kidsP P k).map fun (j : Nat) => TInt j)[i]? = some Pj) : ∃ j, (kidsP P k)[i]? = some j ∧ j ∈ kidsP P k ∧ Pj = TInt j := by
  rw [List.getElem?_map, Option.map_eq_some_iff] at h
  obtain ⟨j, hj, rfl⟩ := h
  exact ⟨j, hj, List.mem_of_getElem? hj, rfl⟩
theorem pAt_at {P : List Int} {k : Nat} (hl : P.length = 6) (hk : k < 6) : (P.map TInt)[((k : Nat) : Int).toNat]? = some (TInt (pAt P k)) := by
  rw [List.getElem?_map, Int.toNat_natCast]
  have : P[k]? = some (pAt P k) := by unfold pAt; rw [List.getElem?_eq_getElem (by lia)]; rfl
  rw [this]; rfl

theorem x_bounds {P R : List Int} {d : Int} (kf : KF K GL) (hKK : ∀ h, Sub K h → KK.In h) (OK : ClsOk KK C fC) (hcmp : ∀ p q : Int × Int, Fn PW w K fC r [(TOrd C [(TInt 0, TInt (-1)), (TInt 1, TInt d)]).w, (TTup [TInt p.1, TInt p.2]).w, (TTup [TInt q.1, TInt q.2]).w] (TInt (cmpP (-1) d p q)).w)
    (hP : P.length = 6) (hR : R.length = 6) :
    Ex PW w K (envAt 25 pm cd doc L a) r [("order", .imm (TOrd C [(TInt 0, TInt (-1)), (TInt 1, TInt d)])), ("rooms", .imm (TList (R.map TInt))), ("parents", .imm (TList (P.map TInt)))] (bodyOf (stm 25))
      (.ret (TTup [TInt (lstK P R d 0), TInt (mostK P R), TInt (hooksL P (done 6))])) := by
  refine ex_cons (exs_new_dict (intKind PW w) kf canCell) ?_
  refine ex_cons (exs_new_dict (intKind PW w) kf canCell) ?_
  refine ex_cons (exs_new_dict (intKind PW w) kf canCell) ?_
  refine ex_cons (exs_new_dict (intKind PW w) kf canCell) ?_
  refine ex_cons (exs_assign canLocal ev_int) ?_
  refine ex_less (ρ' := (bx w C P R d 0 [] [] [] [] 1).drop 1) ?_ (less ⟨rfl, rfl, rfl, rfl, rfl, rfl, rfl, rfl, trivial⟩)
  refine ex_cons (ρ' := (bx w C P R d 0 (done 6) (done 6) (done 6) (done 6) (hooksL P (done 6))).drop 1)
    (exs_for (Ps := [TInt 5, TInt 4, TInt 3, TInt 2, TInt 1, TInt 0]) (fun i => (bx w C P R d 0 (done i) (done i) (done i) (done i) (hooksL P (done i))).drop 1) 6 canCell ?_ ?_ ?_ ?_) ?_
  · refine it_range (a := 5) (b := -1) (c := -1) (ns := [5, 4, 3, 2, 1, 0]) (ev_range3 kf rfl rfl rfl ev_int (ev_neg ev_int) (ev_neg ev_int) (by decide) (by decide +kernel)) (by decide +kernel) (by decide +kernel) ?_
    intro i k h
    match i, h with
    | 0, h => simp at h; lia
    | 1, h => simp at h; lia
    | 2, h => simp at h; lia
    | 3, h => simp at h; lia
    | 4, h => simp at h; lia
    | 5, h => simp at h; lia
    | i + 6, h => simp at h
  · simp
  · intro i Pk hi hPk
    obtain ⟨k, hk, rfl⟩ : ∃ k : Nat, k = 5 - i ∧ Pk = TInt k := by
      match i, hi, hPk with
      | 0, _, h => exact ⟨5, rfl, by simp at h; rw [← h]; rfl⟩
      | 1, _, h => exact ⟨4, rfl, by simp at h; rw [← h]; rfl⟩
      | 2, _, h => exact ⟨3, rfl, by simp at h; rw [← h]; rfl⟩
      | 3, _, h => exact ⟨2, rfl, by simp at h; rw [← h]; rfl⟩
      | 4, _, h => exact ⟨1, rfl, by simp at h; rw [← h]; rfl⟩
      | 5, _, h => exact ⟨0, rfl, by simp at h; rw [← h]; rfl⟩
    have hk6 : k < 6 := by lia
    have hds : done (i + 1) = done i ++ [k] := by rw [done_succ, hk]
    have hnot : k ∉ done i := by rw [mem_done (by lia)]; lia
    have hin : k ∈ done i ++ [k] := by simp
    have hkid : ∀ j, j ∈ kidsP P k → j ∈ done i := fun j hj => by
      have := kid_lt hj
      rw [mem_done (by lia)]; lia
    have hdl : ∀ f : Nat → HV, (dl f (done i)).length ≤ sizeLine := fun f => by unfold dl; rw [List.length_map, done_len, sizeLine_eq]; lia
    refine ex_less (ρ' := bx w C P R d k (done i) (done i) (done i) (done i) (hooksL P (done i))) ?_ (less ⟨rfl, rfl, rfl, rfl, rfl, rfl, rfl, rfl, rfl, trivial⟩)
    -- right[k]
    refine ex_cons (ρ' := bx w C P R d k (done i ++ [k]) (done i) (done i) (done i) (hooksL P (done i))) (exs_out (exs_put (k := (k : Int)) (P := TList ((kidsP P k).map fun (j : Nat) => TInt j)) rfl rfl ?_ ev_v key_int (hdl _)) (less ⟨rfl, rfl, eqD hnot, rfl, rfl, rfl, rfl, rfl, rfl, trivial⟩)) ?_
    · refine ev_cast (ev_comp (own := false) ((above k).map fun j => if pAt P j = (k : Int) then some (TInt j) else none) rfl compOk (it_above kf hk6 (ev_add ev_v ev_int) ev_int) ?_ ?_ ?_ ?_) ?_
      · simp
      · simp [above_len, sizeLine_eq]; lia
      · intro cs C i P' f hP' hf
        rw [List.getElem?_map, Option.map_eq_some_iff] at hP' hf
        obtain ⟨v, hv, rfl⟩ := hP'
        rw [List.getElem?_map, Option.map_eq_some_iff] at hv
        obtain ⟨j, hj, rfl⟩ := hv
        obtain ⟨j', hj', rfl⟩ := hf
        rw [hj] at hj'; cases hj'
        have hjl := above_lt (List.mem_of_getElem? hj)
        refine tst_cast (tst_eq (ev_item_list (P := TInt (pAt P j)) (k := (j : Int)) (lOf ev_v) ev_v (by lia) (pAt_at hP hjl.2) (by lia)) ev_v) ?_
        by_cases q : pAt P j = (k : Int) <;> simp [q]
      · intro cs C i P' P'' hP' hf
        rw [List.getElem?_map, Option.map_eq_some_iff] at hP' hf
        obtain ⟨v, hv, rfl⟩ := hP'
        rw [List.getElem?_map, Option.map_eq_some_iff] at hv
        obtain ⟨j, hj, rfl⟩ := hv
        obtain ⟨j', hj', hf⟩ := hf
        rw [hj] at hj'; cases hj'
        split at hf
        · cases hf; exact ev_v
        · cases hf
      · rw [fs_filterP (fun (j : Nat) => pAt P j = (k : Int)) (fun (j : Nat) => TInt j) (above k)]; rfl
    -- sizes[k]
    refine ex_cons (ρ' := bx w C P R d k (done i ++ [k]) (done i ++ [k]) (done i) (done i) (hooksL P (done i))) (exs_out (exs_put (k := (k : Int)) (P := TInt (szK P k)) rfl rfl ?_ ev_v key_int (hdl _)) (less ⟨rfl, rfl, rfl, eqD (f := fun k => TInt (szK P k)) hnot, rfl, rfl, rfl, rfl, rfl, trivial⟩)) ?_
    · refine ev_castI (ev_add ev_int (ev_sum (ns := (kidsP P k).map (szK P)) kf (lOf ?_))) (szK_eq hk6).symm
      · refine ev_cast (ev_comp (own := false) ((kidsP P k).map fun j => some (TInt (szK P j))) rfl compOk (it_list (ev_item_dict (P := TList ((kidsP P k).map fun (j : Nat) => TInt j)) ev_oD ev_v key_int (by rw [dl_get, if_pos hin]))) ?_ ?_ ?_ ?_) ?_
        · simp
        · have := kids_pos (P := P) (k := k); simp [sizeLine_eq]; lia
        · intro cs C i P' f hP' hf
          obtain ⟨j, hj, hjm, rfl⟩ := kid_at hP'
          rw [List.getElem?_map, hj] at hf
          cases hf; rfl
        · intro cs C i P' P'' hP' hf
          obtain ⟨j, hj, hjm, rfl⟩ := kid_at hP'
          rw [List.getElem?_map, hj] at hf
          cases hf
          exact ev_item_dict (P := TInt (szK P j)) ev_oD ev_v key_int (by rw [dl_get, if_pos (hkid j hjm)])
        · rw [mapSome, List.map_map]; rfl
    -- tips[k]
    refine ex_cons (ρ' := bx w C P R d k (done i ++ [k]) (done i ++ [k]) (done i ++ [k]) (done i) (hooksL P (done i))) (exs_out (exs_put (k := (k : Int)) (P := TInt (tipK P k)) rfl rfl ?_ ev_v key_int (hdl _)) (less ⟨rfl, rfl, rfl, rfl, eqD (f := fun k => TInt (tipK P k)) hnot, rfl, rfl, rfl, rfl, trivial⟩)) ?_
    · refine ev_castI (ev_max2 kf ev_int (ev_sum (ns := (kidsP P k).map (tipK P)) kf (lOf ?_)) (hg := rfl)) (tipK_eq hk6).symm
      · refine ev_cast (ev_comp (own := false) ((kidsP P k).map fun j => some (TInt (tipK P j))) rfl compOk (it_list (ev_item_dict (P := TList ((kidsP P k).map fun (j : Nat) => TInt j)) ev_oD ev_v key_int (by rw [dl_get, if_pos hin]))) ?_ ?_ ?_ ?_) ?_
        · simp
        · have := kids_pos (P := P) (k := k); simp [sizeLine_eq]; lia
        · intro cs C i P' f hP' hf
          obtain ⟨j, hj, hjm, rfl⟩ := kid_at hP'
          rw [List.getElem?_map, hj] at hf
          cases hf; rfl
        · intro cs C i P' P'' hP' hf
          obtain ⟨j, hj, hjm, rfl⟩ := kid_at hP'
          rw [List.getElem?_map, hj] at hf
          cases hf
          exact ev_item_dict (P := TInt (tipK P j)) ev_oD ev_v key_int (by rw [dl_get, if_pos (hkid j hjm)])
        · rw [mapSome, List.map_map]; rfl
    -- rows
    refine ex_cons (exs_assign (P := TList ((rowsK P R d k).map fun p => TTup [TInt p.1, TInt p.2])) canCell ?_) ?_
    · refine ev_cast (ev_comp (own := false) ((kidsP P k).map fun (j : Nat) => some (TTup [TInt (lstK P R d j), TInt j])) rfl compOk (it_list (ev_item_dict (P := TList ((kidsP P k).map fun (j : Nat) => TInt j)) ev_oD ev_v key_int (by rw [dl_get, if_pos hin]))) ?_ ?_ ?_ ?_) ?_
      · simp
      · have := kids_pos (P := P) (k := k); simp [sizeLine_eq]; lia
      · intro cs C i P' f hP' hf
        obtain ⟨j, hj, hjm, rfl⟩ := kid_at hP'
        rw [List.getElem?_map, hj] at hf
        cases hf; rfl
      · intro cs C i P' P'' hP' hf
        obtain ⟨j, hj, hjm, rfl⟩ := kid_at hP'
        rw [List.getElem?_map, hj] at hf
        cases hf
        exact ev_tuple (Ps := [TInt (lstK P R d j), TInt j]) (evl_cons (P := (TInt (lstK P R d j)).w) (ev_item_dict (P := TInt (lstK P R d j)) ev_oD ev_v key_int (by rw [dl_get, if_pos (hkid j hjm)])) (evl_cons (P := (TInt (j : Int)).w) ev_v evl_nil)) (by rw [sizeLine_eq]; simp)
      · rw [mapSome]; unfold rowsK; rw [List.map_map]; rfl
    -- waits
    have rlen : (rowsK P R d k).length ≤ 5 := by unfold rowsK; rw [List.length_map]; exact kids_pos
    refine ex_cons (ρ' := ("waits", .imm (TList ((waitsL d (rowsK P R d k)).map TInt))) :: ("rows", .imm (TList ((rowsK P R d k).map fun p => TTup [TInt p.1, TInt p.2]))) :: bx w C P R d k (done i ++ [k]) (done i ++ [k]) (done i ++ [k]) (done i) (hooksL P (done i))) ?_ ?_
    · refine exs_out (exs_comp (own := true) (Ps := (rowsK P R d k).map fun p => TTup [TInt p.1, TInt p.2]) ((rowsK P R d k).map fun p => some (TInt (p.1 + aheadN d (rowsK P R d k) p))) canLocal compOk (it_list ev_v) ?_ ?_ ?_ ?_) (less ⟨?_, rfl, rfl, rfl, rfl, rfl, rfl, rfl, rfl, rfl, rfl, trivial⟩)
      · simp
      · simp [sizeLine_eq]; lia
      · intro cs C i P' f hP' hf
        rw [List.getElem?_map, Option.map_eq_some_iff] at hf
        obtain ⟨p, hp, rfl⟩ := hf
        rfl
      · intro cs C' i P' P'' hP' hf
        rw [List.getElem?_map, Option.map_eq_some_iff] at hP' hf
        obtain ⟨p, hp, rfl⟩ := hP'
        obtain ⟨p', hp', hf⟩ := hf
        rw [hp] at hp'; cases hp'; cases hf
        refine ev_add (ev_item_tup (k := 0) (P := TInt p.1) (Ps := [TInt p.1, TInt p.2]) (lOf ev_v) ev_int (by lia) rfl (by lia)) ?_
        refine ev_castI (ev_lenL (Ps := ((rowsK P R d k).filter fun q => cmpP (-1) d q p < 0).map fun p => TTup [TInt p.1, TInt p.2]) kf rfl rfl rfl (lOf ?_) ?_) (by unfold aheadN; rw [List.length_map])
        · refine ev_cast (ev_comp (own := false) ((rowsK P R d k).map fun q => if cmpP (-1) d q p < 0 then some (TTup [TInt q.1, TInt q.2]) else none) rfl compOk (it_list ev_v) ?_ ?_ ?_ ?_) ?_
          · simp
          · simp [sizeLine_eq]; lia
          · intro cs2 C2 i2 P2 f hP2 hf2
            rw [List.getElem?_map, Option.map_eq_some_iff] at hP2 hf2
            obtain ⟨q, hq, rfl⟩ := hP2
            obtain ⟨q', hq', rfl⟩ := hf2
            rw [hq] at hq'; cases hq'
            refine tst_cast (tst_lt (ev_cmpCall hKK OK ev_v ev_v ev_v (hcmp q p)) ev_int) ?_
            by_cases z : cmpP (-1) d q p < 0 <;> simp [z]
          · intro cs2 C2 i2 P2 P3 hP2 hf2
            rw [List.getElem?_map, Option.map_eq_some_iff] at hP2 hf2
            obtain ⟨q, hq, rfl⟩ := hP2
            obtain ⟨q', hq', hf2⟩ := hf2
            rw [hq] at hq'; cases hq'
            split at hf2
            · cases hf2; exact ev_v
            · cases hf2
          · rw [fs_filterP (fun q => cmpP (-1) d q p < 0) (fun q => TTup [TInt q.1, TInt q.2])]
        · rw [List.length_map]
          have := List.length_filter_le (fun q => decide (cmpP (-1) d q p < 0)) (rowsK P R d k)
          lia
      · rw [mapSome]; unfold waitsL; rw [List.map_map]; rfl
    -- least[k]
    refine ex_cons (ρ' := ("waits", .imm (TList ((waitsL d (rowsK P R d k)).map TInt))) :: ("rows", .imm (TList ((rowsK P R d k).map fun p => TTup [TInt p.1, TInt p.2]))) :: bx w C P R d k (done i ++ [k]) (done i ++ [k]) (done i ++ [k]) (done i ++ [k]) (hooksL P (done i)))
      (exs_out (exs_put (k := (k : Int)) (P := TInt (lstK P R d k)) rfl rfl ?_ ev_v key_int (hdl _)) (less ⟨rfl, rfl, rfl, rfl, rfl, rfl, rfl, eqD (f := fun k => TInt (lstK P R d k)) hnot, rfl, rfl, rfl, trivial⟩)) ?_
    · have wl : (waitsL d (rowsK P R d k)).length ≤ 5 := by unfold waitsL; rw [List.length_map]; exact rlen
      refine ev_castI (ev_max (ns := (((kidsP P k).length : Int) + pAt R k) :: waitsL d (rowsK P R d k)) kf ?_ (by simp)) (lstK_eq hk6).symm
      refine lOf (ev_cast (ev_addL (Ps := [TInt (((kidsP P k).length : Int) + pAt R k)]) (Qs := (waitsL d (rowsK P R d k)).map TInt) (lOf (ev_list (evl_cons (P := (TInt (((kidsP P k).length : Int) + pAt R k)).w) ?_ evl_nil) (by rw [sizeLine_eq]; simp))) (lOf ev_v) (by simp; lia)) ?_)
      · refine ev_add (ev_castI (ev_lenL (Ps := (rowsK P R d k).map fun p => TTup [TInt p.1, TInt p.2]) kf rfl rfl rfl (lOf ev_v) (by rw [List.length_map]; lia)) ?_) (ev_item_list (P := TInt (pAt R k)) (k := (k : Int)) (lOf ev_v) ev_v (by lia) (pAt_at hR hk6) (by lia))
        unfold rowsK; rw [List.length_map, List.length_map]
      · rfl
    -- hooks
    have szb := szK_bound P k
    refine ex_cons (exs_assign (P := TInt (hooksL P (done i) * szK P k)) canLocal (ev_mul ev_v (ev_item_dict (P := TInt (szK P k)) ev_oD ev_v key_int (by rw [dl_get, if_pos hin])) (IntMulOk.of_right (intBits_le_64 (by lia) (by lia))))) ?_
    refine ex_less ex_nil (less ⟨eqI ?_, ?_, ?_, ?_, ?_, rfl, rfl, rfl, trivial⟩)
    · rw [hds]; simp [hooksL]
    all_goals (simp only [hds]; rfl)
  · exact .inl ⟨rfl, rfl⟩
  · have d0 : ∀ j, j < 6 → j ∈ done 6 := fun j hj => by rw [mem_done (by lia)]; lia
    refine ex_cons (exs_assign (P := TInt (mostK P R)) canLocal ?_) ?_
    · refine ev_max (ns := (List.range 6).map fun k => ((kidsP P k).length : Int) + pAt R k + tipK P 0 - tipK P k) kf (lOf (ev_cast (ev_comp (own := false) ((List.range 6).map fun k => some (TInt (((kidsP P k).length : Int) + pAt R k + tipK P 0 - tipK P k))) rfl compOk
        (it_range (a := 0) (b := 6) (c := 1) (ns := (List.range 6).map fun (k : Nat) => (k : Int)) (ev_range1 kf rfl rfl rfl ev_int) (by decide +kernel) (by decide +kernel) ?_) ?_ ?_ ?_ ?_) ?_)) (by simp)
      · intro i k h
        rw [List.getElem?_map, Option.map_eq_some_iff] at h
        obtain ⟨j, hj, rfl⟩ := h
        have hi : i < 6 := by have := (List.getElem?_eq_some_iff.mp hj).1; simpa using this
        rw [List.getElem?_range hi] at hj
        cases hj; lia
      · simp
      · simp [sizeLine_eq]
      · intro cs C i P' f hP' hf
        rw [List.getElem?_map, Option.map_eq_some_iff] at hf
        obtain ⟨p, hp, rfl⟩ := hf
        rfl
      · intro cs C' i P' P'' hP' hf
        rw [List.getElem?_map, Option.map_eq_some_iff] at hP' hf
        obtain ⟨v, hv, rfl⟩ := hP'
        rw [List.getElem?_map, Option.map_eq_some_iff] at hv
        obtain ⟨k, hk, rfl⟩ := hv
        obtain ⟨k', hk', hf⟩ := hf
        rw [hk] at hk'; cases hk'; cases hf
        have hk6 : k < 6 := by have := List.mem_range.mp (List.mem_of_getElem? hk); exact this
        refine ev_sub (ev_add (ev_add (ev_castI (ev_lenL (Ps := (kidsP P k).map fun (j : Nat) => TInt j) kf rfl rfl rfl (lOf (ev_item_dict (P := TList ((kidsP P k).map fun (j : Nat) => TInt j)) ev_oD ev_v key_int (by rw [dl_get, if_pos (d0 k hk6)]))) ?_) ?_)
          (ev_item_list (P := TInt (pAt R k)) (k := (k : Int)) (lOf ev_v) ev_v (by lia) (pAt_at hR hk6) (by lia)))
          (ev_item_dict (k := (0 : Int)) (P := TInt (tipK P 0)) ev_oD ev_int key_int ?_)) (ev_item_dict (P := TInt (tipK P k)) ev_oD ev_v key_int (by rw [dl_get, if_pos (d0 k hk6)]))
        · have := kids_pos (P := P) (k := k); rw [List.length_map]; lia
        · rw [List.length_map]
        · have := dl_get (fun k => TInt (tipK P k)) (ks := done 6) (k := 0)
          rw [if_pos (d0 0 (by lia))] at this
          exact this
      · rw [mapSome, List.map_map]; rfl
    · refine ex_ret (exs_return (ev_tuple (Ps := [TInt (lstK P R d 0), TInt (mostK P R), TInt (hooksL P (done 6))]) (evl_cons (P := (TInt (lstK P R d 0)).w) (ev_item_dict (k := (0 : Int)) (P := TInt (lstK P R d 0)) ev_oD ev_int key_int ?_) (evl_cons (P := (TInt (mostK P R)).w) ev_v (evl_cons (P := (TInt (hooksL P (done 6))).w) ev_v evl_nil))) (by rw [sizeLine_eq]; simp)))
      have := dl_get (fun k => TInt (lstK P R d k)) (ks := done 6) (k := 0)
      rw [if_pos (d0 0 (by lia))] at this
      exact this
end
end Mine

namespace Mine
open PySem PySem.Calls PySem.W

/-- what parse229 sees in a text -/
structure Seen (x : Str) (l r : Nat) : Prop where
  small : x.length ≤ 100000
  head : Txt.slice x none (some 3) = "229"
  left : Txt.find x "(" = l
  right : Txt.find3 x ")" ((l : Int) + 1) = r
  l1 : l + 1 < x.length
  r1 : 1 ≤ r
  r2 : r ≤ x.length
noncomputable def chAt (x : Str) (k : Nat) : Str := ⟨#[x.cps.getD k 0]⟩
noncomputable def partsAt (x : Str) (l r : Nat) : List Str := Txt.split (Txt.slice x (some ((l : Int) + 1)) (some (r : Int))) (chAt x (l + 1))

section
variable {w : World} {K : PM} {pm cd doc : Value} {L a : Addr} {r : Nat}

theorem ev_ch {env : Env} {ρ : Ctx} {e i : Expr} {pos : Pos} {x : Str} {k : Nat} {j : Int} (he : Ev PW w K env r ρ e (TStr x)) (hi : Ev PW w K env r ρ i (TInt j)) (hj : j = (k : Int)) (hk : k < x.length) (hs : x.length ≤ 100000)
    (hs2 : ∀ va vi, ∃ ops, subscripted i false va vi = operate ops (getItem va vi) := by intro a b; exact ⟨_, rfl⟩) : Ev PW w K env r ρ (.Subscript e i pos) (TStr (chAt x k)) := by
  subst hj
  have := ev_itemS (pos := pos) he hi (by lia) (by lia) (by lia) hs2
  exact ev_castS this (by unfold chAt; rw [Int.toNat_natCast])

theorem x_parse_ok {x host p : Str} {l rr : Nat} {n step : Int} (kf : KF K GL) (sn : Seen x l rr) (hm : chAt x (l + 1) = chAt x (rr - 1)) (h5 : (partsAt x l rr).length = 5) (hp : (partsAt x l rr)[3]? = some p) (hn : PySem.intText? p = some n) (hpl : p.length ≤ 640) :
    Ex PW w K (envAt 17 pm cd doc L a) r [("peer", .imm (TTup [TStr host, TInt step])), ("resp", .imm (TStr x))] (bodyOf (stm 17)) (.ret (TTup [TStr host, TInt n])) := by
  obtain ⟨hsm, hh, hl, hr, l1, r1, r2⟩ := sn
  refine ex_cons (exs_if (c := false) (tst_cast (tst_neS (ev_cutS (lo := none) (hi := some 3) ev_v trivial ev_int (by rw [sizeLine_eq]; lia)) ev_str) ?_) (fun h => by cases h) (fun _ => ex_nil)) ?_
  · rw [hh]; simp
  refine ex_cons (exs_assign (P := TInt l) canLocal (ev_castI (ev_find ev_v ev_str) hl)) ?_
  refine ex_cons (exs_if (c := false) (tst_cast (tst_lt ev_v ev_int) (by simp <;> lia)) (fun h => by cases h) (fun _ => ex_nil)) ?_
  refine ex_cons (exs_assign (P := TInt rr) canLocal (ev_castI (ev_find3 ev_v ev_str (ev_add ev_v ev_int)) hr)) ?_
  refine ex_cons (exs_if (c := false) (tst_cast (tst_lt ev_v ev_int) (by simp <;> lia)) (fun h => by cases h) (fun _ => ex_nil)) ?_
  refine ex_cons (exs_if (c := false) (tst_cast (tst_neS (x := chAt x (l + 1)) (y := chAt x (rr - 1)) (ev_ch ev_v (ev_add ev_v ev_int) (by lia) l1 hsm) (ev_ch ev_v (ev_sub ev_v ev_int) (by lia) (by lia) hsm)) ?_) (fun h => by cases h) (fun _ => ex_nil)) ?_
  · rw [hm]; simp
  refine ex_cons (exs_assign (P := TList ((partsAt x l rr).map TStr)) canLocal (ev_split (ev_cutS (lo := some ((l : Int) + 1)) (hi := some (rr : Int)) ev_v (ev_add ev_v ev_int) ev_v (by rw [sizeLine_eq]; lia)) (ev_ch ev_v (ev_add ev_v ev_int) (by lia) l1 hsm) ?_ ?_)) ?_
  · rfl
  · have := Txt.slice_le x (some ((l : Int) + 1)) (some (rr : Int)); rw [sizeLine_eq]; lia
  refine ex_cons (exs_if (c := false) (tst_cast (tst_ne (ev_lenL (Ps := (partsAt x l rr).map TStr) kf rfl rfl rfl (lOf ev_v) (by rw [List.length_map]; lia)) ev_int) ?_) (fun h => by cases h) (fun _ => ex_nil)) ?_
  · rw [List.length_map, h5]; rfl
  refine ex_cons (exs_assign (P := TStr host) canLocal (ev_item_tup (k := 0) (Ps := [TStr host, TInt step]) (lOf ev_v) ev_int (by lia) rfl (by lia))) ?_
  refine ex_cons (exs_assign (P := TInt n) canLocal ?_) ?_
  · refine cb1 (fv := .type "int") (Pa := TStr p) kf ?_ ?_ (ev_item_list (k := 3) (P := TStr p) (lOf ev_v) ev_int (by lia) ?_ (by lia)) ?_
    · first | rfl | decide +kernel
    · intro a h; cases h
    · rw [List.getElem?_map, show (3 : Int).toNat = 3 from rfl, hp]; rfl
    · exact fun X hh v q => vl_intS q hn hpl
  · exact ex_ret (exs_return (ev_tuple (Ps := [TStr host, TInt n]) (evl_cons (P := (TStr host).w) ev_v (evl_cons (P := (TInt n).w) ev_v evl_nil)) (by rw [sizeLine_eq]; simp)))

theorem x_parse_err {x host : Str} {l rr : Nat} {step : Int} (kf : KF K GL) (hE : ∀ h, Sub K h → ErrAt h 150) (sn : Seen x l rr) (hbad : chAt x (l + 1) ≠ chAt x (rr - 1) ∨ (partsAt x l rr).length ≠ 5) (hpl : (partsAt x l rr).length ≤ 200000) :
    ExR PW w K (envAt 17 pm cd doc L a) r [("peer", .imm (TTup [TStr host, TInt step])), ("resp", .imm (TStr x))] (bodyOf (stm 17)) 150 := by
  obtain ⟨hsm, hh, hl, hr, l1, r1, r2⟩ := sn
  refine exr_cons (exs_if (c := false) (tst_cast (tst_neS (ev_cutS (lo := none) (hi := some 3) ev_v trivial ev_int (by rw [sizeLine_eq]; lia)) ev_str) ?_) (fun h => by cases h) (fun _ => ex_nil)) ?_
  · rw [hh]; simp
  refine exr_cons (exs_assign (P := TInt l) canLocal (ev_castI (ev_find ev_v ev_str) hl)) ?_
  refine exr_cons (exs_if (c := false) (tst_cast (tst_lt ev_v ev_int) (by simp <;> lia)) (fun h => by cases h) (fun _ => ex_nil)) ?_
  refine exr_cons (exs_assign (P := TInt rr) canLocal (ev_castI (ev_find3 ev_v ev_str (ev_add ev_v ev_int)) hr)) ?_
  refine exr_cons (exs_if (c := false) (tst_cast (tst_lt ev_v ev_int) (by simp <;> lia)) (fun h => by cases h) (fun _ => ex_nil)) ?_
  by_cases hm : chAt x (l + 1) = chAt x (rr - 1)
  · refine exr_cons (exs_if (c := false) (tst_cast (tst_neS (x := chAt x (l + 1)) (y := chAt x (rr - 1)) (ev_ch ev_v (ev_add ev_v ev_int) (by lia) l1 hsm) (ev_ch ev_v (ev_sub ev_v ev_int) (by lia) (by lia) hsm)) ?_) (fun h => by cases h) (fun _ => ex_nil)) ?_
    · rw [hm]; simp
    refine exr_cons (exs_assign (P := TList ((partsAt x l rr).map TStr)) canLocal (ev_split (ev_cutS (lo := some ((l : Int) + 1)) (hi := some (rr : Int)) ev_v (ev_add ev_v ev_int) ev_v (by rw [sizeLine_eq]; lia)) (ev_ch ev_v (ev_add ev_v ev_int) (by lia) l1 hsm) ?_ ?_)) ?_
    · rfl
    · have := Txt.slice_le x (some ((l : Int) + 1)) (some (rr : Int)); rw [sizeLine_eq]; lia
    have h5 : (partsAt x l rr).length ≠ 5 := hbad.resolve_left fun z => z hm
    refine exr_if (tst_cast (tst_ne (ev_lenL (Ps := (partsAt x l rr).map TStr) kf rfl rfl rfl (lOf ev_v) (by rw [List.length_map]; lia)) ev_int) ?_) ?_
    · rw [List.length_map]; simp; lia
    · exact exr_raise kf rfl rfl hE rfl (evl_cons ev_v evl_nil) (by simp)
  · refine exr_if (tst_cast (tst_neS (x := chAt x (l + 1)) (y := chAt x (rr - 1)) (ev_ch ev_v (ev_add ev_v ev_int) (by lia) l1 hsm) (ev_ch ev_v (ev_sub ev_v ev_int) (by lia) (by lia) hsm)) ?_) ?_
    · simp [hm]
    · exact exr_raise kf rfl rfl hE rfl (evl_cons ev_v evl_nil) (by simp)
end
end Mine

namespace Mine
open PySem PySem.Calls PySem.W

section
variable {w : World} {K : PM} {r : Nat}
theorem fn_parse_ok {x host p : Str} {l rr : Nat} {n step : Int} (kf : KF K GL) (F : FnAt K 17 159) (sn : Seen x l rr) (hm : chAt x (l + 1) = chAt x (rr - 1)) (h5 : (partsAt x l rr).length = 5) (hp : (partsAt x l rr)[3]? = some p) (hn : PySem.intText? p = some n) (hpl : p.length ≤ 640) :
    Fn PW w K 159 (r + 1) [(TStr x).w, (TTup [TStr host, TInt step]).w] (TTup [TStr host, TInt n]).w := by
  obtain ⟨o, pm, cd, doc, ho, hd, hc⟩ := F.at_
  exact fn_of_body (ps := [("resp", TStr x), ("peer", TTup [TStr host, TInt step])]) (P := TTup [TStr host, TInt n]) kf ho hd hc rfl rfl (fun vs hv => by obtain ⟨a, b, rfl⟩ := ln2 hv; rfl) (fun L => canP ⟨canLocal, canLocal, trivial⟩)
    (fun L => x_parse_ok kf sn hm h5 hp hn hpl)
theorem fnr_parse_err {x host : Str} {l rr : Nat} {step : Int} (kf : KF K GL) (F : FnAt K 17 159) (hE : ∀ h, Sub K h → ErrAt h 150) (sn : Seen x l rr) (hbad : chAt x (l + 1) ≠ chAt x (rr - 1) ∨ (partsAt x l rr).length ≠ 5) (hpl : (partsAt x l rr).length ≤ 200000) :
    FnR PW w K 159 (r + 1) [(TStr x).w, (TTup [TStr host, TInt step]).w] 150 := by
  obtain ⟨o, pm, cd, doc, ho, hd, hc⟩ := F.at_
  exact fnr_of_body (ps := [("resp", TStr x), ("peer", TTup [TStr host, TInt step])]) kf ho hd hc rfl rfl (fun vs hv => by obtain ⟨a, b, rfl⟩ := ln2 hv; rfl) (fun L => canP ⟨canLocal, canLocal, trivial⟩)
    (fun L => x_parse_err kf hE sn hbad hpl)
end

noncomputable def letters : Str := "abcdef"
noncomputable def letter (k : Nat) : Str := chAt letters k
/-- a reading of group k in the text left -/
inductive Rdg (left : Str) (g : Grp) (k : Nat) : Option Str → Prop
  | gone : Txt.find left (S g.head) < 0 → Rdg left g k none
  | bad (p l r : Nat) : Txt.find left (S g.head) = p → Seen ("229 " ++ Txt.slice left (some (p : Int)) none) l r → (chAt ("229 " ++ Txt.slice left (some (p : Int)) none) (l + 1) ≠ chAt ("229 " ++ Txt.slice left (some (p : Int)) none) (r - 1) ∨ (partsAt ("229 " ++ Txt.slice left (some (p : Int)) none) l r).length ≠ 5) →
      (partsAt ("229 " ++ Txt.slice left (some (p : Int)) none) l r).length ≤ 200000 → Rdg left g k none
  | read (p l r q : Nat) (ps : Str) : Txt.find left (S g.head) = p → Seen ("229 " ++ Txt.slice left (some (p : Int)) none) l r → chAt ("229 " ++ Txt.slice left (some (p : Int)) none) (l + 1) = chAt ("229 " ++ Txt.slice left (some (p : Int)) none) (r - 1) →
      (partsAt ("229 " ++ Txt.slice left (some (p : Int)) none) l r).length = 5 → (partsAt ("229 " ++ Txt.slice left (some (p : Int)) none) l r)[3]? = some ps → PySem.intText? ps = some (g.port : Int) → ps.length ≤ 640 → Txt.find3 left ")" (p : Int) = q →
      Rdg left g k (some (Txt.slice left none (some (p : Int)) ++ letter k ++ Txt.slice left (some ((q : Int) + 1)) none))

noncomputable abbrev Rows := List (Str × Tbl)
noncomputable def rvs (w : World) (R : Rows) : List (Str × HV) := R.map fun p => (p.1, TD w p.2)
theorem dget_map {K α β : Type} [DecidableEq K] (f : α → β) (t : List (K × α)) (k : K) : dget (t.map fun p => (p.1, f p.2)) k = (dget t k).map f := by
  unfold dget
  induction t with
  | nil => rfl
  | cons p t ih =>
    simp only [List.map_cons, List.find?_cons]
    by_cases q : p.1 = k
    · simp [q]
    · simp only [q, decide_false]; exact ih
theorem dput_map {K α β : Type} [DecidableEq K] (f : α → β) (t : List (K × α)) (k : K) (v : α) : dput (t.map fun p => (p.1, f p.2)) k (f v) = (dput t k v).map fun p => (p.1, f p.2) := by
  unfold dput
  have e : ((t.map fun p => (p.1, f p.2)).any fun kv => decide (kv.1 = k)) = t.any fun kv => decide (kv.1 = k) := by
    rw [List.any_map]; rfl
  rw [e]
  split
  · rw [List.map_map, List.map_map]
    apply List.map_congr_left
    intro p _
    simp only [Function.comp]
    split <;> rfl
  · simp

noncomputable def nameCs : List Nat := letters.cps.toList
noncomputable def heldN (left : Str) (step : Int) : Int := ((nameCs.filter fun c => Txt.contains left ⟨#[c]⟩).length : Nat) + step - 6
noncomputable def putRow (acc : Rows) (after : Str) (t : Tbl) : Rows := dput acc after (addT ((dget acc after).getD []) t)
noncomputable def grow1 (port : Nat → Nat) (rd : Str → Nat → Option Str) (step : Int) (left : Str) (tab : Tbl) (acc : Rows) (k : Nat) : Rows :=
  match rd left k with
  | none => acc
  | some after => putRow acc after (raisedT tab (heldN left step + 1 + ((port k : Int).fmod 4)))
noncomputable def growL (port : Nat → Nat) (rd : Str → Nat → Option Str) (step : Int) (acc : Rows) (p : Str × Tbl) : Rows := (List.range 6).foldl (grow1 port rd step p.1 p.2) acc
noncomputable def growAll (port : Nat → Nat) (rd : Str → Nat → Option Str) (step : Int) (rows : Rows) : Rows := rows.foldl (growL port rd step) []
noncomputable def rowsN (port : Nat → Nat) (rd : Str → Nat → Option Str) (text : Str) : Nat → Rows
  | 0 => [(text, [(0, 1)])]
  | n + 1 => growAll port rd (n : Int) (rowsN port rd text n)

theorem key_strK {w : World} : ∀ k X h v, (strKind PW w).is k v = true → (TStr k).p X h v := fun k X h v hk => Value.isStrOf_shape hk

section
variable {w : World} {K : PM} {pm cd doc : Value} {L a : Addr} {r : Nat} {env : Env} {ρ : Ctx}

theorem rd_pair {p : Int × Int} : Rd (TTup [TInt p.1, TInt p.2]).w (.tuple [.int p.1, .int p.2]) := fun X h v q => rd_tup (Ps := [TInt p.1, TInt p.2]) (ds := [.int p.1, .int p.2]) ⟨rd_int, rd_int, trivial⟩ X h v q.2
noncomputable def pairsD (t : Tbl) : PyData := .list (t.map fun p => .tuple [.int p.1, .int p.2])
theorem rd_pairs (t : Tbl) : Rd (LSeq "list" (t.map fun p => TTup [TInt p.1, TInt p.2])) (pairsD t) := by
  refine rd_list ?_
  induction t with
  | nil => trivial
  | cons p t ih => exact ⟨rd_pair, ih⟩
theorem pairs_lay (t : Tbl) : (pairsD t).canLay0 = true := by
  unfold pairsD PyData.canLay0
  induction t with
  | nil => rfl
  | cons p t ih => simp only [List.map_cons, PyData.canLayAll0]; rw [ih]; rfl
theorem pairs_depth (t : Tbl) : (pairsD t).depth ≤ 2 := by
  unfold pairsD PyData.depth
  have : PyData.depthAll (t.map fun p => PyData.tuple [.int p.1, .int p.2]) ≤ 1 := by
    induction t with
    | nil => decide
    | cons p t ih =>
      simp only [List.map_cons, PyData.depthAll]
      have : (PyData.tuple [.int p.1, .int p.2]).depth ≤ 1 := by simp [PyData.depth, PyData.depthAll]
      lia
  lia
end
end Mine

namespace Mine
open PySem PySem.Calls PySem.W

section
variable {w : World} {K : PM} {pm cd doc : Value} {L a : Addr} {r : Nat} {ρ : Ctx}

/-- the body of the loop over k -/
noncomputable def loopBodies : List Stmt → List (List Stmt)
  | [] => []
  | .For _ _ b _ _ :: r => b :: loopBodies r
  | _ :: r => loopBodies r
noncomputable def bodyStep : List Stmt := (loopBodies (bodyOf (stm 24))).getD 0 []
noncomputable def bodyLeft : List Stmt := (loopBodies bodyStep).getD 0 []
noncomputable def bodyK : List Stmt := (loopBodies bodyLeft).getD 0 []

structure RFacts (w : World) (K : PM) (G : List Grp) : Prop where
  kf : KF K GL
  parse : FnAt K 17 159
  raised : FnAt K 23 184
  add : FnAt K 3 66
  err : ∀ h, Sub K h → ErrAt h 150
  ok : GOk G

noncomputable abbrev cK (w : World) (G : List Grp) (rows acc : Rows) (left : Str) (step h : Int) : Ctx :=
  [("grown", .ownD (strKind PW w) (rvs w acc)), ("held", .imm (TInt h)), ("left", .imm (TStr left)), ("step", .imm (TInt step)), ("rows", .imm (TDict (strKind PW w) (rvs w rows))), ("groups", .imm (GS G))]

theorem letter_ok {k : Nat} (hk : k < 6) : PyData.strOk (letter k) = true := by
  have : ∀ k, k < 6 → PyData.strOk (letter k) = true := by decide +kernel
  exact this k hk
theorem letters_len : letters.length = 6 := by decide +kernel
theorem ev_letter {env : Env} {k : Nat} {kk : Nat} {cp p pos : Pos} (hk : k < 6) (hi : Ev PW w K env r ρ (.Name "k" p) (TInt k)) : Ev PW w K env r ρ (.Subscript (.Constant (.str "abcdef") kk cp) (.Name "k" p) pos) (TStr (letter k)) :=
  ev_ch (x := letters) (k := k) ev_str hi rfl (by rw [letters_len]; exact hk) (by rw [letters_len]; lia)

noncomputable def stepRow (acc : Rows) (t : Tbl) : Option Str → Rows
  | none => acc
  | some after => putRow acc after t
theorem raised_len (tab : Tbl) (need : Int) : (raisedT tab need).length ≤ tab.length := by
  have := foldl_len (raise1 tab need) (fun acc x => dput_len acc _ _) [] tab
  unfold raisedT; simpa using this
theorem ev_pairs {env : Env} {ρ : Ctx} {t : Tbl} {scope : Scope} {elt : Expr} {px pos p : Pos} (hn : NK t) (hsz : t.length ≤ 1000) (hk : env.scope.kind = .function) (CO : CompOk env ρ scope "peak" false)
    (hkept : Ev PW w K env r ρ (.Name "kept" p) (TD w t)) (helt : ∀ (cs : List (Str × Addr)) (C : Addr) (q : Int × Int), dget t q.1 = some q.2 → Ev PW w K (compEnvC scope cs C env) r (("peak", .imm (TInt q.1)) :: freeOf scope ρ) elt (TTup [TInt q.1, TInt q.2]).w) :
    Ev PW w K env r ρ (.ListComp elt [⟨.Name "peak" px, .Name "kept" p, [], 0⟩] scope pos) (TList (t.map fun p => TTup [TInt p.1, TInt p.2])) := by
  refine ev_cast (ev_comp (own := false) (t.map fun p => some (TTup [TInt p.1, TInt p.2])) hk CO (it_keys (TK := TInt) hkept int_key) ?_ ?_ ?_ ?_) ?_
  · simp [tv]
  · simp [tv, sizeLine_eq]; lia
  · intro cs C i P f hP hf
    rw [List.getElem?_map, Option.map_eq_some_iff] at hf
    obtain ⟨q, hq, rfl⟩ := hf
    rfl
  · intro cs C i P P' hP hf
    rw [List.getElem?_map, Option.map_eq_some_iff] at hf
    obtain ⟨q, hq, hf⟩ := hf
    cases hf
    have : P = TInt q.1 := by simp [tv, hq] at hP; exact hP.symm
    subst this
    exact helt cs C q (dget_at hn hq)
  · rw [mapSome]

theorem x_k {G : List Grp} {outer : List Env} {Z : List Addr} {rows acc : Rows} {left : Str} {step : Int} {tab : Tbl} {k : Nat} {g : Grp} {res : Option Str} (F : RFacts w K G) (hg : G[k]? = some g) (hk : k < 6) (hR : Rdg left g k res) (hrow : dget rows left = some tab)
    (hsz : left.length ≤ 90000) (hacc : acc.length ≤ 1000) (hnk : NK tab) (htl : tab.length ≤ 100) (hal : ∀ after t, dget acc after = some t → t.length ≤ 800 ∧ NK t) :
    ExG PW w K Z (FZ (envAt 24 pm cd doc L a) outer Z) (envAt 24 pm cd doc L a) (r + 1) (("k", .imm (TInt k)) :: cK w G rows acc left step (heldN left step)) bodyK
      (.next (cK w G rows (stepRow acc (raisedT tab (heldN left step + 1 + ((g.port : Int).fmod 4))) res) left step (heldN left step))) := by
  obtain ⟨kf, parse, raised, add, err, ok⟩ := F
  have slots : ∀ A h h', FZ (envAt 24 pm cd doc L a) outer Z A h → SlotKeep Z h h' → FZ (envAt 24 pm cd doc L a) outer Z A h' := fun _ _ _ x k => x.slots k
  obtain ⟨o17, pm17, cd17, doc17, ho17, hd17, hc17⟩ := parse.at_
  have hgrp : ∀ {ρ : Ctx} {p1 p2 p3 : Pos}, List.lookup ("groups" : Str) ρ = some (.imm (GS G)) → List.lookup ("k" : Str) ρ = some (.imm (TInt k)) → Ev PW w K (envAt 24 pm cd doc L a) (r + 1) ρ (.Subscript (.Name "groups" p1) (.Name "k" p2) p3) (GV g).w := by
    intro ρ p1 p2 p3 h1 h2
    refine ev_item_list (P := GV g) (k := (k : Int)) (lOf (ev_v (hx := h1))) (ev_v (hx := h2)) (by lia) ?_ (by lia)
    rw [List.getElem?_map, Int.toNat_natCast, hg]; rfl
  -- place
  refine exg_cons slots (exsg_of (exs_assign (P := TInt (Txt.find left (S g.head))) canLocal (ev_find ev_v (ev_item_tup (k := 1) (P := TStr (S g.head)) (Ps := [TInt g.par, TStr (S g.head), TStr (S g.note), TStr (S [g.mark]), TInt g.port]) (lOf (hgrp rfl rfl)) ev_int (by lia) rfl (by lia))))) ?_
  -- told = None
  refine exg_cons slots (exsg_of (exs_assign (P := TNone) canLocal ev_none)) ?_
  have hargs : ∀ {p : Nat} {ρ : Ctx}, List.lookup ("left" : Str) ρ = some (.imm (TStr left)) → List.lookup ("place" : Str) ρ = some (.imm (TInt (p : Int))) → List.lookup ("k" : Str) ρ = some (.imm (TInt k)) → List.lookup ("step" : Str) ρ = some (.imm (TInt step)) →
      ∀ {cpos q1 q2 q3 q4 q5 q6 q7 q8 q9 q10 q11 : Pos} {n1 n2 n3 : Nat}, EvL PW w K (envAt 24 pm cd doc L a) (r + 1) ρ cpos [.BinOp (.Constant (.str "229 ") n1 q1) .Add (.Subscript (.Name "left" q2) (.Slice (some (.Name "place" q3)) none none q4) q5) q6,
        .Tuple [.Subscript (.Constant (.str "abcdef") n2 q7) (.Name "k" q8) q9, .Name "step" q10] n3 q11] [(TStr ("229 " ++ Txt.slice left (some (p : Int)) none)).w, (TTup [TStr (letter k), TInt step]).w] := by
    intro p ρ h1 h2 h3 h4 cpos q1 q2 q3 q4 q5 q6 q7 q8 q9 q10 q11 n1 n2 n3
    have := Txt.slice_le left (some (p : Int)) none
    have l4 : (Str.ofString "229 ").length = 4 := by decide +kernel
    refine evl_cons (ev_addS ev_str (ev_cutS (lo := some (p : Int)) (hi := none) (ev_v (hx := h1)) (ev_v (hx := h2)) trivial (by rw [sizeLine_eq]; lia)) (by rw [l4, sizeLine_eq]; lia)) (evl_cons ?_ evl_nil)
    exact ev_tuple (Ps := [TStr (letter k), TInt step]) (evl_cons (P := (TStr (letter k)).w) (ev_letter hk (ev_v (hx := h3))) (evl_cons (P := (TInt step).w) (ev_v (hx := h4)) evl_nil)) (by rw [sizeLine_eq]; simp)
  -- the reading
  have tail : ∀ {told : HV} {O : Out}, (match res with | none => told = TNone | some _ => told = TTup [TStr (letter k), TInt g.port]) → O = .next (cK w G rows (stepRow acc (raisedT tab (heldN left step + 1 + ((g.port : Int).fmod 4))) res) left step (heldN left step)) →
      (∀ after, res = some after → ∃ p q : Nat, Txt.find left (S g.head) = p ∧ Txt.find3 left ")" (p : Int) = q ∧ after = Txt.slice left none (some (p : Int)) ++ letter k ++ Txt.slice left (some ((q : Int) + 1)) none) →
      ExG PW w K Z (FZ (envAt 24 pm cd doc L a) outer Z) (envAt 24 pm cd doc L a) (r + 1) (("told", .imm told) :: ("place", .imm (TInt (Txt.find left (S g.head)))) :: ("k", .imm (TInt k)) :: cK w G rows acc left step (heldN left step)) (bodyK.drop 3) O := by
    intro told O hres hO hread
    subst hO
    cases res with
    | none =>
      subst hres
      refine exg_of (ex_cons (exs_if (c := false) (tst_notnone (P := TNone.w) ev_v ev_none (fun X h v p => ?_)) (fun h => by cases h) (fun _ => ex_nil)) (ex_less ex_nil (less ⟨rfl, rfl, rfl, rfl, rfl, rfl, trivial⟩)))
      cases p
      exact ⟨rfl, rfl⟩
    | some after =>
      subst hres
      obtain ⟨p, q, hp, hq, hafter⟩ := hread after rfl
      refine exg_of (ex_cons (exs_if (c := true) (O := .next (cK w G rows (putRow acc after (raisedT tab (heldN left step + 1 + ((g.port : Int).fmod 4)))) left step (heldN left step))) (tst_notnone (P := (TTup [TStr (letter k), TInt g.port]).w) ev_v ev_none (fun X h v p => ?_)) (fun _ => ?_) (fun h => by cases h)) ex_nil)
      · obtain ⟨⟨a, rfl, _⟩, _⟩ := p
        exact ⟨rfl, rfl⟩
      have hd0 : (PyData.tuple [.str (letter k), .int (g.port : Int)]).canLay0 = true := by simp [PyData.canLay0, PyData.canLayAll0, letter_ok hk]
      have rdt : Rd (TTup [TStr (letter k), TInt g.port]).w (.tuple [.str (letter k), .int (g.port : Int)]) := fun X h v q => rd_tup (Ps := [TStr (letter k), TInt g.port]) (ds := [.str (letter k), .int (g.port : Int)]) ⟨rd_str, rd_int, trivial⟩ X h v q.2
      refine ex_cons (exs_if (c := false) (tst_cast (tst_ned (Pa := (TTup [TStr (letter k), TInt g.port]).w) (Pb := (TTup [TStr (letter k), TInt g.port]).w) ev_v
        (ev_tuple (Ps := [TStr (letter k), TInt g.port]) (evl_cons (P := (TStr (letter k)).w) (ev_letter hk ev_v) (evl_cons (P := (TInt (g.port : Int)).w) (ev_item_tup (k := 4) (P := TInt g.port) (Ps := [TInt g.par, TStr (S g.head), TStr (S g.note), TStr (S [g.mark]), TInt g.port]) (lOf (hgrp rfl rfl)) ev_int (by lia) rfl (by lia)) evl_nil)) (by rw [sizeLine_eq]; simp)) rdt rdt hd0 hd0 ?_) ?_) (fun h => by cases h) (fun _ => ex_nil)) ?_
      · simp [PyData.depth, PyData.depthAll]; lia
      · rw [PySem.SeqAt.eqv_refl _ hd0]; rfl
      have sl1 := Txt.slice_le left none (some (p : Int))
      have sl2 := Txt.slice_le left (some ((q : Int) + 1)) none
      have ll : (letter k).length = 1 := rfl
      refine ex_cons (exs_assign (P := TStr after) canLocal ?_) ?_
      · rw [hafter]
        refine ev_addS (ev_addS (ev_cutS (lo := none) (hi := some (p : Int)) ev_v trivial (ev_castI ev_v hp) (by rw [sizeLine_eq]; lia)) (ev_letter hk ev_v) (by rw [sizeLine_eq]; lia))
          (ev_cutS (lo := some ((q : Int) + 1)) (hi := none) ev_v (ev_add (ev_index3 (i := (p : Int)) ev_v ev_str (ev_castI ev_v hp) hq) ev_int) trivial (by rw [sizeLine_eq]; lia)) ?_
        show (Txt.slice left none (some (p : Int)) ++ letter k).length + _ ≤ _
        have e : (Txt.slice left none (some (p : Int)) ++ letter k).length = (Txt.slice left none (some (p : Int))).length + 1 := by
          show ((Txt.slice left none (some (p : Int))).cps ++ (letter k).cps).size = _
          rw [Array.size_append]; rfl
        rw [e, sizeLine_eq]; lia
      obtain ⟨o23, pm23, cd23, doc23, ho23, hd23, hc23⟩ := raised.at_
      obtain ⟨o3, pm3, cd3, doc3, ho3, hd3, hc3⟩ := add.at_
      refine ex_cons (exs_assign (P := TD w (raisedT tab (heldN left step + 1 + ((g.port : Int).fmod 4)))) canLocal ?_) ?_
      · refine ev_fn kf rfl rfl (a := 184) rfl ho23 hd23 (evl_cons (P := (TD w tab).w) (ev_item_dict (knd := strKind PW w) (k := left) (P := TD w tab) (dOf ev_v) ev_v key_str ?_) (evl_cons (P := (TInt (heldN left step + 1 + ((g.port : Int).fmod 4))).w)
          (ev_add (ev_add ev_v ev_int) (ev_mod (ev_item_tup (k := 1) (P := TInt g.port) (Ps := [TStr (letter k), TInt g.port]) (lOf ev_v) ev_int (by lia) rfl (by lia)) ev_int (by decide))) evl_nil)) (fn_raised kf raised hnk (by lia))
        unfold rvs
        rw [dget_map (TD w), hrow]; rfl
      have hk0 : ((dget acc after).getD []).length ≤ 800 ∧ NK ((dget acc after).getD []) := by
        cases h : dget acc after with
        | none => exact ⟨by simp, List.nodup_nil⟩
        | some t => exact hal after t h
      have hrl := raised_len tab (heldN left step + 1 + ((g.port : Int).fmod 4))
      generalize hkept : (dget acc after).getD [] = kept0 at hk0
      generalize htb : raisedT tab (heldN left step + 1 + ((g.port : Int).fmod 4)) = tb at hrl
      refine ex_cons (exs_assign (P := TD w kept0) canCell (ev_get2 (knd := strKind PW w) (k := after) (P := (TD w kept0).w) (Pd := (TD w []).w) ev_oD ev_v (ev_dict0 (knd := intKind PW w) kf) key_str (fun X h v => ?_))) ?_
      · unfold rvs
        rw [dget_map (TD w)]
        constructor
        · intro P hP hp
          rw [Option.map_eq_some_iff] at hP
          obtain ⟨t, ht, rfl⟩ := hP
          rw [ht] at hkept
          simp only [Option.getD_some] at hkept
          exact hkept ▸ hp
        · intro hP hp
          rw [Option.map_eq_none_iff] at hP
          rw [hP] at hkept
          simp only [Option.getD_none] at hkept
          exact hkept ▸ hp
      refine ex_cons (exs_comp (own := false) (Ps := (tv kept0).map fun kv => TInt kv.1) (kept0.map fun p => some (TTup [TInt p.1, TInt p.2])) canLocal compOk (it_keys (TK := TInt) ev_v int_key) ?_ ?_ ?_ ?_) ?_
      · simp [tv]
      · simp [tv, sizeLine_eq]; lia
      · intro cs C i P f hP hf
        rw [List.getElem?_map, Option.map_eq_some_iff] at hf
        obtain ⟨q, hq, rfl⟩ := hf
        rfl
      · intro cs C i P P' hP hf
        rw [List.getElem?_map, Option.map_eq_some_iff] at hf
        obtain ⟨q, hq, hf⟩ := hf
        cases hf
        have : P = TInt q.1 := by simp [tv, hq] at hP; exact hP.symm
        subst this
        exact ev_tuple (Ps := [TInt q.1, TInt q.2]) (evl_cons (P := (TInt q.1).w) ev_v (evl_cons (P := (TInt q.2).w) (ev_item_dict (k := q.1) (P := TInt q.2) (dOf ev_v) ev_v key_int (by rw [tv_get, dget_at hk0.2 hq]; rfl)) evl_nil)) (by rw [sizeLine_eq]; simp)
      rw [mapSome]
      refine ex_cons (exs_put (knd := strKind PW w) (k := after) (P := TD w (addT kept0 tb)) rfl rfl (ev_fn kf rfl rfl (a := 66) rfl ho3 hd3 (evl_cons (P := (TD w kept0).w) ev_v (evl_cons (P := (TD w tb).w) ev_v evl_nil)) (fn_add kf add (by lia))) ev_v key_str ?_) ?_
      · unfold rvs; rw [List.length_map, sizeLine_eq]; lia
      refine ex_cons (exs_if (c := false) (tst_cast (tst_ned (lOf (ev_pairs hk0.2 (by lia) rfl compOk ev_v (fun cs C q hq => ?_))) (lOf ev_v) (rd_pairs kept0) (rd_pairs kept0) (pairs_lay _) (pairs_lay _) ?_) ?_) (fun h => by cases h) (fun _ => ex_nil)) ?_
      · exact ev_tuple (Ps := [TInt q.1, TInt q.2]) (evl_cons (P := (TInt q.1).w) ev_v (evl_cons (P := (TInt q.2).w) (ev_item_dict (k := q.1) (P := TInt q.2) (dOf ev_v) ev_v key_int (by rw [tv_get, hq]; rfl)) evl_nil)) (by rw [sizeLine_eq]; simp)
      · have := pairs_depth kept0; lia
      · rw [PySem.SeqAt.eqv_refl _ (pairs_lay _)]; rfl
      refine ex_less ex_nil (less ⟨?_, rfl, rfl, rfl, rfl, rfl, trivial⟩)
      simp only [putRow, hkept]
      unfold rvs
      rw [← dput_map (TD w)]
      rfl
  have nil : ∀ {ρ : Ctx}, ExG PW w K Z (FZ (envAt 24 pm cd doc L a) outer Z) (envAt 24 pm cd doc L a) (r + 1) ρ [] (.next ρ) := exg_of ex_nil
  cases hR with
  | gone h =>
    refine exg_cons slots (exsg_of (exs_if (c := false) (tst_cast (tst_ge ev_v ev_int) (by simp <;> lia)) (fun h => by cases h) (fun _ => ex_nil))) ?_
    exact exg_less (tail (told := TNone) rfl rfl (fun _ h => by cases h)) (less ⟨rfl, rfl, rfl, rfl, rfl, rfl, rfl, rfl, rfl, trivial⟩)
  | bad p l rr hp sn hbad hpl =>
    refine exg_cons (ρ' := ("told", .imm TNone) :: ("place", .imm (TInt (Txt.find left (S g.head)))) :: ("k", .imm (TInt k)) :: cK w G rows acc left step (heldN left step)) slots (exsg_if slots (c := true) (tst_cast (tst_ge ev_v ev_int) (by simp <;> lia)) (fun _ => ?_) (fun h => by cases h)) (tail (told := TNone) rfl rfl (fun _ h => by cases h))
    refine exg_cons slots (exsg_try_err kf rfl rfl rfl canLocal err rfl (evr_fn kf rfl rfl (a := 159) rfl ho17 hd17 (hargs (p := p) (by rfl) (by exact congrArg (fun z => some (Ent.imm (TInt z))) hp) (by rfl) (by rfl)) (fnr_parse_err kf parse err sn hbad hpl))) (exg_less nil (less ⟨rfl, rfl, rfl, rfl, rfl, rfl, rfl, rfl, rfl, trivial⟩))
  | read p l rr q ps hp sn hm h5 h3 hn hpl hq =>
    refine exg_cons (ρ' := ("told", .imm (TTup [TStr (letter k), TInt g.port])) :: ("place", .imm (TInt (Txt.find left (S g.head)))) :: ("k", .imm (TInt k)) :: cK w G rows acc left step (heldN left step)) slots (exsg_if slots (c := true) (tst_cast (tst_ge ev_v ev_int) (by simp <;> lia)) (fun _ => ?_) (fun h => by cases h)) (tail (told := TTup [TStr (letter k), TInt g.port]) rfl rfl (fun _ h => by cases h; exact ⟨p, q, hp, hq, rfl⟩))
    refine exg_cons slots (exsg_try_ok (ex_cons (exs_assign (P := TTup [TStr (letter k), TInt g.port]) canLocal (ev_fn kf rfl rfl (a := 159) rfl ho17 hd17 (hargs (p := p) (by rfl) (by exact congrArg (fun z => some (Ent.imm (TInt z))) hp) (by rfl) (by rfl)) (fn_parse_ok kf parse sn hm h5 h3 hn hpl))) ex_nil)) (exg_less nil (less ⟨rfl, rfl, rfl, rfl, rfl, rfl, rfl, rfl, rfl, trivial⟩))
end
end Mine

namespace Mine
open PySem PySem.Calls PySem.W

noncomputable def portOf (G : List Grp) (k : Nat) : Nat := (G[k]?.map (·.port)).getD 0
structure WalkOk (G : List Grp) (rd : Str → Nat → Option Str) (step : Int) (rows : Rows) : Prop where
  row : ∀ (i : Nat) left tab, rows[i]? = some (left, tab) → dget rows left = some tab ∧ left.length ≤ 90000 ∧ NK tab ∧ tab.length ≤ 100 ∧ ∀ (k : Nat) (g : Grp), k < 6 → G[k]? = some g → Rdg left g k (rd left k)
  len : rows.length ≤ 1000
  acc : ∀ (i j : Nat) left tab, rows[i]? = some (left, tab) → j ≤ 6 → (((List.range j).foldl (grow1 (portOf G) rd step left tab) ((rows.take i).foldl (growL (portOf G) rd step) []))).length ≤ 1000 ∧
    ∀ after t, dget ((List.range j).foldl (grow1 (portOf G) rd step left tab) ((rows.take i).foldl (growL (portOf G) rd step) [])) after = some t → t.length ≤ 800 ∧ NK t

section
variable {w : World} {K : PM} {pm cd doc : Value} {L a : Addr} {r : Nat} {ρ : Ctx}

theorem x_left {G : List Grp} {outer : List Env} {Z : List Addr} {rows acc : Rows} {left : Str} {step : Int} {tab : Tbl} {rd : Str → Nat → Option Str} (F : RFacts w K G) (hR : ∀ (k : Nat) (g : Grp), k < 6 → G[k]? = some g → Rdg left g k (rd left k)) (hrow : dget rows left = some tab)
    (hsz : left.length ≤ 90000) (hnk : NK tab) (htl : tab.length ≤ 100)
    (hacc : ∀ j, j ≤ 6 → (((List.range j).foldl (grow1 (portOf G) rd step left tab) acc)).length ≤ 1000 ∧ ∀ after t, dget ((List.range j).foldl (grow1 (portOf G) rd step left tab) acc) after = some t → t.length ≤ 800 ∧ NK t) :
    ExG PW w K Z (FZ (envAt 24 pm cd doc L a) outer Z) (envAt 24 pm cd doc L a) (r + 1) [("left", .imm (TStr left)), ("grown", .ownD (strKind PW w) (rvs w acc)), ("step", .imm (TInt step)), ("rows", .imm (TDict (strKind PW w) (rvs w rows))), ("groups", .imm (GS G))] bodyLeft
      (.next [("grown", .ownD (strKind PW w) (rvs w (growL (portOf G) rd step acc (left, tab)))), ("step", .imm (TInt step)), ("rows", .imm (TDict (strKind PW w) (rvs w rows))), ("groups", .imm (GS G))]) := by
  have F' := F
  obtain ⟨kf, parse, raised, add, err, ok⟩ := F
  have slots : ∀ A h h', FZ (envAt 24 pm cd doc L a) outer Z A h → SlotKeep Z h h' → FZ (envAt 24 pm cd doc L a) outer Z A h' := fun _ _ _ x k => x.slots k
  refine exg_cons slots (exsg_of (exs_assign (P := TInt (heldN left step)) canLocal ?_)) ?_
  · refine ev_sub (ev_add (ev_castI (ev_lenL (Ps := (nameCs.filter fun c => Txt.contains left ⟨#[c]⟩).map fun c => TStr ⟨#[c]⟩) kf rfl rfl rfl (lOf ?_) ?_) (by rw [List.length_map])) ev_v) ev_int
    · refine ev_cast (ev_comp (own := false) (nameCs.map fun c => if Txt.contains left ⟨#[c]⟩ = true then some (TStr ⟨#[c]⟩) else none) rfl compOk (it_ascii (x := letters) ev_str (by decide +kernel)) ?_ ?_ ?_ ?_) ?_
      · unfold nameCs; simp
      · have : nameCs.length = 6 := by decide +kernel
        unfold nameCs at this
        rw [List.length_map, this, sizeLine_eq]; lia
      · intro cs C i P f hP hf
        rw [List.getElem?_map, Option.map_eq_some_iff] at hP hf
        obtain ⟨c, hc, rfl⟩ := hP
        obtain ⟨c', hc', rfl⟩ := hf
        unfold nameCs at hc'
        rw [hc] at hc'; cases hc'
        refine tst_cast (tst_inS ev_v ev_v) ?_
        cases Txt.contains left ⟨#[c]⟩ <;> rfl
      · intro cs C i P P' hP hf
        rw [List.getElem?_map, Option.map_eq_some_iff] at hP hf
        obtain ⟨c, hc, rfl⟩ := hP
        obtain ⟨c', hc', hf⟩ := hf
        unfold nameCs at hc'
        rw [hc] at hc'; cases hc'
        split at hf
        · cases hf; exact ev_v
        · cases hf
      · rw [fs_filter (fun c => Txt.contains left ⟨#[c]⟩) (fun c => TStr ⟨#[c]⟩)]
    · rw [List.length_map]
      have h1 := List.length_filter_le (fun c => Txt.contains left ⟨#[c]⟩) nameCs
      have : nameCs.length = 6 := by decide +kernel
      lia
  refine exg_less (ρ' := cK w G rows acc left step (heldN left step)) ?_ (less ⟨rfl, rfl, rfl, rfl, rfl, rfl, trivial⟩)
  refine exg_cons (ρ' := cK w G rows ((List.range 6).foldl (grow1 (portOf G) rd step left tab) acc) left step (heldN left step)) slots
    (exsg_for (Ps := ((List.range 6).map fun (k : Nat) => (k : Int)).map TInt) (fun j => cK w G rows ((List.range j).foldl (grow1 (portOf G) rd step left tab) acc) left step (heldN left step)) 6 slots canLocal
      (it_range (a := 0) (b := 6) (c := 1) (ns := (List.range 6).map fun (k : Nat) => (k : Int)) (ev_range1 kf rfl rfl rfl ev_int) (by decide +kernel) (by decide +kernel) ?_) ?_ ?_ ?_) ?_
  · intro i k h
    rw [List.getElem?_map, Option.map_eq_some_iff] at h
    obtain ⟨j, hj, rfl⟩ := h
    have hi : i < 6 := by have := (List.getElem?_eq_some_iff.mp hj).1; simpa using this
    rw [List.getElem?_range hi] at hj
    cases hj; lia
  · simp
  · intro j P hj hP
    have : P = TInt (j : Int) := by
      rw [List.getElem?_map, List.getElem?_map, List.getElem?_range hj] at hP
      simpa using hP.symm
    subst this
    obtain ⟨g, hg⟩ : ∃ g, G[j]? = some g := ⟨_, List.getElem?_eq_getElem (by rw [ok.six]; exact hj)⟩
    obtain ⟨a1, a2⟩ := hacc j (by lia)
    have := x_k (pm := pm) (cd := cd) (doc := doc) (L := L) (a := a) (r := r) (outer := outer) (Z := Z) (step := step) F' hg hj (hR j g hj hg) hrow hsz a1 hnk htl a2
    have e : (List.range (j + 1)).foldl (grow1 (portOf G) rd step left tab) acc = stepRow ((List.range j).foldl (grow1 (portOf G) rd step left tab) acc) (raisedT tab (heldN left step + 1 + ((g.port : Int).fmod 4))) (rd left j) := by
      rw [List.range_succ, List.foldl_append, List.foldl_cons, List.foldl_nil]
      conv => lhs; unfold grow1
      have hp : portOf G j = g.port := by unfold portOf; rw [hg]; rfl
      rw [hp]
      unfold stepRow
      cases rd left j <;> rfl
    rw [e]
    exact this
  · exact .inl ⟨by simp, rfl⟩
  · exact exg_of (ex_less ex_nil (less ⟨rfl, rfl, rfl, rfl, trivial⟩))

theorem x_readings {G : List Grp} {outer : List Env} {Z : List Addr} {text : Str} {rd : Str → Nat → Option Str} (F : RFacts w K G) (ok : ∀ s : Nat, s < 6 → WalkOk G rd (s : Int) (rowsN (portOf G) rd text s)) :
    ExG PW w K Z (FZ (envAt 24 pm cd doc L a) outer Z) (envAt 24 pm cd doc L a) (r + 1) [("groups", .imm (GS G)), ("text", .imm (TStr text))] (bodyOf (stm 24)) (.ret (TDict (strKind PW w) (rvs w (rowsN (portOf G) rd text 6)))) := by
  have F' := F
  obtain ⟨kf, parse, raised, add, err, gok⟩ := F
  have slots : ∀ A h h', FZ (envAt 24 pm cd doc L a) outer Z A h → SlotKeep Z h h' → FZ (envAt 24 pm cd doc L a) outer Z A h' := fun _ _ _ x k => x.slots k
  refine exg_cons slots (exsg_of (exs_assign (P := TDict (strKind PW w) (rvs w (rowsN (portOf G) rd text 0))) canLocal (ev_dict1 (knd := strKind PW w) (k := text) (P := TD w [(0, 1)]) kf ev_v (ev_dict1 (knd := intKind PW w) (k := (0 : Int)) (P := TInt 1) kf ev_int ev_int key_int) key_str))) ?_
  refine exg_less (ρ' := [("rows", .imm (TDict (strKind PW w) (rvs w (rowsN (portOf G) rd text 0)))), ("groups", .imm (GS G))]) ?_ (less ⟨rfl, rfl, trivial⟩)
  refine exg_cons (ρ' := [("rows", .imm (TDict (strKind PW w) (rvs w (rowsN (portOf G) rd text 6)))), ("groups", .imm (GS G))]) slots
    (exsg_for (Ps := ((List.range 6).map fun (k : Nat) => (k : Int)).map TInt) (fun s => [("rows", .imm (TDict (strKind PW w) (rvs w (rowsN (portOf G) rd text s)))), ("groups", .imm (GS G))]) 6 slots canLocal
      (it_range (a := 0) (b := 6) (c := 1) (ns := (List.range 6).map fun (k : Nat) => (k : Int)) (ev_range1 kf rfl rfl rfl ev_int) (by decide +kernel) (by decide +kernel) ?_) ?_ ?_ ?_) ?_
  · intro i k h
    rw [List.getElem?_map, Option.map_eq_some_iff] at h
    obtain ⟨j, hj, rfl⟩ := h
    have hi : i < 6 := by have := (List.getElem?_eq_some_iff.mp hj).1; simpa using this
    rw [List.getElem?_range hi] at hj
    cases hj; lia
  · simp
  · intro s P hs hP
    have : P = TInt (s : Int) := by
      rw [List.getElem?_map, List.getElem?_map, List.getElem?_range hs] at hP
      simpa using hP.symm
    subst this
    have O := ok s hs
    generalize hrows : rowsN (portOf G) rd text s = rows at O
    refine exg_cons slots (exsg_of (exs_new_dict (strKind PW w) kf canLocal)) ?_
    refine exg_less (ρ' := [("grown", .ownD (strKind PW w) (rvs w [])), ("step", .imm (TInt s)), ("rows", .imm (TDict (strKind PW w) (rvs w rows))), ("groups", .imm (GS G))]) ?_ (less ⟨rfl, rfl, rfl, rfl, trivial⟩)
    refine exg_cons (ρ' := [("grown", .ownD (strKind PW w) (rvs w (growAll (portOf G) rd s rows))), ("step", .imm (TInt s)), ("rows", .imm (TDict (strKind PW w) (rvs w rows))), ("groups", .imm (GS G))]) slots
      (exsg_for (Ps := (rvs w rows).map fun kv => TStr kv.1) (fun i => [("grown", .ownD (strKind PW w) (rvs w ((rows.take i).foldl (growL (portOf G) rd s) []))), ("step", .imm (TInt s)), ("rows", .imm (TDict (strKind PW w) (rvs w rows))), ("groups", .imm (GS G))]) rows.length slots canCell
        (it_keys (TK := TStr) ev_v key_strK) ?_ ?_ ?_) ?_
    · simp [rvs]
    · intro i P hi hP
      obtain ⟨p, hp⟩ : ∃ p, rows[i]? = some p := ⟨_, List.getElem?_eq_getElem hi⟩
      obtain ⟨left, tab⟩ := p
      have : P = TStr left := by
        simp [rvs, hp] at hP; exact hP.symm
      subst this
      obtain ⟨r1, r2, r3, r4, r5⟩ := O.row i left tab hp
      rw [foldl_take _ _ hp]
      exact x_left F' r5 r1 r2 r3 r4 (fun j hj => O.acc i j left tab hp hj)
    · refine .inl ⟨by simp [rvs], ?_⟩
      rw [List.take_length]; rfl
    · refine exg_freeze (x := "grown") rfl ?_
      refine exg_of (ex_cons (exs_assign (P := TDict (strKind PW w) (rvs w (growAll (portOf G) rd s rows))) canLocal ev_v) (ex_less ex_nil (less ⟨?_, rfl, trivial⟩)))
      have : rowsN (portOf G) rd text (s + 1) = growAll (portOf G) rd s rows := by rw [rowsN, hrows]
      rw [this]; rfl
  · exact .inl ⟨by simp, rfl⟩
  · exact exg_of (ex_ret (exs_return ev_v))
end
end Mine

namespace Mine
open PySem PySem.Calls PySem.W

noncomputable def DG (n m x : Nat) : List Int := (List.range m).map fun i => (((x / 2 ^ (n * i)) % 2 ^ n : Nat) : Int)
theorem DG_len (n m x : Nat) : (DG n m x).length = m := by simp [DG]
theorem DG_split (n m k x : Nat) (h : k ≤ m) : DG n m x = DG n k (x % 2 ^ (n * k)) ++ DG n (m - k) (x / 2 ^ (n * k)) := by
  unfold DG
  apply List.ext_getElem?
  intro i
  rw [List.getElem?_append]
  simp only [List.length_map, List.length_range, List.getElem?_map]
  by_cases hi : i < k
  · rw [if_pos hi, List.getElem?_range (by lia), List.getElem?_range hi]
    simp only [Option.map_some, Option.some.injEq]
    congr 1
    have e : 2 ^ (n * k) = 2 ^ (n * i) * 2 ^ (n * (k - i)) := by rw [← Nat.pow_add, ← Nat.mul_add]; congr 2; lia
    rw [e, Nat.mod_mul_right_div_self]
    obtain ⟨j, hj⟩ : ∃ j, k - i = j + 1 := ⟨k - i - 1, by lia⟩
    rw [hj, Nat.mul_succ, Nat.pow_add, Nat.mod_mul_left_mod]
  · rw [if_neg hi]
    by_cases hm : i < m
    · rw [List.getElem?_range hm, List.getElem?_range (by lia)]
      simp only [Option.map_some, Option.some.injEq]
      congr 2
      rw [Nat.div_div_eq_div_mul, ← Nat.pow_add, ← Nat.mul_add]
      congr 3; lia
    · rw [List.getElem?_eq_none (by simp; lia), List.getElem?_eq_none (by simp; lia)]; rfl
theorem DG_one (n x : Nat) (h : x < 2 ^ n) : DG n 1 x = [(x : Int)] := by
  show [(((x / 2 ^ (n * 0)) % 2 ^ n : Nat) : Int)] = _
  rw [Nat.mul_zero, Nat.pow_zero, Nat.div_one, Nat.mod_eq_of_lt h]
end Mine

namespace Mine
open PySem PySem.Calls PySem.W

theorem bitXor_low (x s : Nat) : Builtin.bitXor (x : Int) (((x / 2 ^ s * 2 ^ s : Nat)) : Int) = ((x % 2 ^ s : Nat) : Int) := by
  rw [PyProof.Rows.bitXor_and, PyProof.Rows.bitAnd_pp (by lia) (by lia)]
  have h : (x : Int).toNat &&& (((x / 2 ^ s * 2 ^ s : Nat)) : Int).toNat = x / 2 ^ s * 2 ^ s := by
    rw [Int.toNat_natCast, Int.toNat_natCast]
    apply Nat.eq_of_testBit_eq
    intro i
    rw [Nat.testBit_and, Nat.testBit_mul_two_pow, Nat.testBit_div_two_pow]
    by_cases h : s ≤ i
    · have : i - s + s = i := by lia
      simp [h, this]
    · simp [h]
  rw [h]
  have e := Nat.div_add_mod x (2 ^ s)
  rw [Nat.mul_comm] at e
  generalize x / 2 ^ s * 2 ^ s = A at e ⊢
  lia

noncomputable def innerI : Stmt := (bodyOf (stm 9)).getD 1 (.Pass default)
theorem KF.mono {K K₁ : PM} {gl : List (Str × Value)} (kf : KF K gl) (h : ∀ a o, K a = some o → K₁ a = some o) : KF K₁ gl :=
  ⟨fun g s => kf.nolimit g fun a o e => s a o (h a o e), fun g s => kf.glob g fun a o e => s a o (h a o e), fun g s => kf.blt g fun a o e => s a o (h a o e)⟩

/-- the inner def of _int2digits, standing -/
structure InI (K₁ : PM) (q : Str) (f c' D cA cI cN : Addr) (n : Nat) : Prop where
  fn : ∃ doc pm ctv, K₁ f = some (fnMade "inner" q (paramsOf innerI) (bodyOf innerI) (scopeOf innerI) [("n", cN), ("inner", cI), ("a_digits", cA)] doc pm c' ctv)
  rec_ : ∀ h, Sub K₁ h → Rec h c' q
  kA : ∀ h, Sub K₁ h → h.IsCell cA (some (.ref D))
  kI : ∀ h, Sub K₁ h → h.IsCell cI (some (.ref f))
  kN : ∃ t, ∀ h, Sub K₁ h → h.IsCell cN (some (.int n t))
  d1 : cA ≠ cI
  d2 : cA ≠ cN
  d3 : cI ≠ cN
  dD : K₁ D = none

section
variable {w : World} {K K₁ : PM} {r : Nat}

/-- what inner does at a call -/
noncomputable def InnerDoes (w : World) (K₁ : PM) (f D : Addr) (n : Nat) (rr m : Nat) : Prop :=
  ∀ (A : Around) (s : Shared) (X : XS) (lo hi x : Nat) (ns : List Int) (vx vl vh : Value) (Q : Value → Shared → Prop) (E : Value → Shared → Prop), Room A rr → Sub K₁ s.heap → (∀ b, X b → (s.heap.get? b).isSome = true) → X D → lo + m = hi → hi ≤ ns.length → ns.length ≤ 1000 → x < 2 ^ (n * m) → x < 2 ^ 40 →
    (∃ t, vx = .int x t) → (∃ t, vl = .int lo t) → (∃ t, vh = .int hi t) → LSeqP "list" (ns.map TInt) X s.heap (.ref D) →
    (∀ h' tk, (∀ b o, b ≠ D → s.heap.get? b = some o → h'.get? b = some o) → LSeqP "list" ((ns.take lo ++ DG n m x ++ ns.drop hi).map TInt) X h' (.ref D) → Q .none { s with heap := h', toks := tk }) →
    wpAny (model PW w) A (call (.ref f) [vx, vl, vh]) Q E s

/-- inner called from inner, or from without: the list changes -/
theorem exs_inner {env : Env} {ρ : Ctx} {q : Str} {f c' D cA cI cN : Addr} {n m lo hi x : Nat} {ns : List Int} {e1 e2 e3 : Expr} {p pos spos : Pos} (N : InI K₁ q f c' D cA cI cN n) (hdo : InnerDoes w K₁ f D n r m) (hk : env.scope.kind = .function)
    (hA : ρ.lookup (Str.ofString "a_digits") = some (.ownS "list" (ns.map TInt))) (hI : ρ.lookup (Str.ofString "inner") = some (.imm (TVal fun v => v = .ref f))) (hcA : env.cells.lookup (Str.ofString "a_digits") = some cA) (hkA : env.kindOf "a_digits" = some .free ∨ env.kindOf "a_digits" = some .cell)
    (h1 : Ev PW w K₁ env r ρ e1 (TInt x)) (h2 : Ev PW w K₁ env r ρ e2 (TInt lo)) (h3 : Ev PW w K₁ env r ρ e3 (TInt hi)) (hm : lo + m = hi) (hhi : hi ≤ ns.length) (hns : ns.length ≤ 1000) (hx : x < 2 ^ (n * m)) (hx2 : x < 2 ^ 40)
    (hst1 : starEach [e1, e2, e3] env = (false, eval e1 env) :: starEach [e2, e3] env := by rfl) (hst2 : starEach [e2, e3] env = (false, eval e2 env) :: starEach [e3] env := by rfl) (hst3 : starEach [e3] env = [(false, eval e3 env)] := by rfl) (hi0 : interactive env = false := by rfl) :
    ExS PW w K₁ env r ρ (.Expr (.Call (.Name "inner" p) [e1, e2, e3] [] pos) spos) (.next (("a_digits", .ownS "list" ((ns.take lo ++ DG n m x ++ ns.drop hi).map TInt)) :: ρ)) := by
  intro A s B X₀ W Q E R I c
  refine wpAny_Expr ?_ hi0
  show wpAny _ A (do callWith pos (← eval (.Name "inner" p) env) [] (backTo pos (starEach [e1, e2, e3] env)) (backToKw pos (keywordEach [] env))) _ E s
  have evI : Ev PW w K₁ env r ρ (.Name "inner" p) (TVal fun v => v = .ref f).w := ev_v (hk := hk) (hx := hI)
  refine wpAny_bind (evI A s _ _ E R I.subK I.sat ?_)
  rintro v h₀ t₀ k₀ rfl
  have I₀ := I.keeps k₀
  have hargs := evl_cons (pos := pos) h1 (evl_cons h2 (evl_cons h3 evl_nil hst3) hst2) hst1
  obtain ⟨doc, pm, ctv, hfn⟩ := N.fn
  refine Calls.callWith_function (s := { s with heap := h₀, toks := t₀ }) (o := _) (fd := _) (evalArgs_trees hargs.plain (hargs.run A _ _ _ _ R I₀.subK I₀.sat fun vs h' tk kp pv => ⟨⟨(I₀.subK.keeps kp) _ _ hfn, rfl⟩, ?_⟩))
  have I₁ := I₀.keeps kp
  obtain ⟨vx, vl, vh, rfl, p1, p2, p3⟩ := vs3 pv
  obtain ⟨m1, cm1, F1, V1, O1⟩ := I₁.body
  obtain ⟨v, hv, hp⟩ := V1 _ _ hA
  obtain ⟨aD, q1, q2, _⟩ := O1.inW _ _ hA rfl
  rw [hv] at q1; cases q1
  have hcm := cellOf_valOf hv (hkA.symm)
  obtain ⟨c0, hc0, hcm⟩ := hcm
  rw [hcA] at hc0; cases hc0
  have hDD : aD = D := by
    have := cell_uniq (F1.cell _ _ hcA) (N.kA _ I₁.subK)
    rw [hcm] at this
    cases this; rfl
  subst hDD
  refine hdo A { s with heap := h', toks := tk } (fun b => X₀ b ∨ W b) lo hi x ns vx vl vh _ E R I₁.subK I₁.sat.1 (.inr q2) hm hhi hns hx hx2 p1 p2 p3 hp fun h'' tk' k'' hl => ?_
  have ⟨a', vs', n', e1', ho', _⟩ := hl
  cases e1'
  exact c .next h'' tk' ⟨rfl, W, I₁.poke2 (e' := .ownS "list" ((ns.take lo ++ DG n m x ++ ns.drop hi).map TInt)) hA rfl rfl (fun m' cm' F' => by rw [Fm.uniq F' F1]; exact hv) (fun b o hb e => k'' b o hb e) hl (liveAt ho')⟩

theorem InnerDoes.room {f D : Addr} {n rr rr' m : Nat} (h : InnerDoes w K₁ f D n rr m) (hr : rr ≤ rr') : InnerDoes w K₁ f D n rr' m :=
  fun A s X lo hi x ns vx vl vh Q E R => h A s X lo hi x ns vx vl vh Q E (R.le hr)

theorem three.{u} {α : Type u} {a b c : Str} {u v w : α} {n : Str} {z : α} (h : List.lookup n [(a, u), (b, v), (c, w)] = some z) : (n = a ∧ z = u) ∨ (n = b ∧ z = v) ∨ (n = c ∧ z = w) := by
  rw [List.lookup_cons] at h
  cases h1 : n == a with
  | true => rw [h1] at h; cases h; exact .inl ⟨eq_of_beq h1, rfl⟩
  | false =>
    rw [h1] at h
    simp only [List.lookup_cons] at h
    cases h2 : n == b with
    | true => rw [h2] at h; cases h; exact .inr (.inl ⟨eq_of_beq h2, rfl⟩)
    | false =>
      rw [h2] at h
      cases h3 : n == c with
      | true => rw [h3] at h; cases h; exact .inr (.inr ⟨eq_of_beq h3, rfl⟩)
      | false => rw [h3] at h; cases h

theorem inner_does {q : Str} {f c' D cA cI cN : Addr} {n : Nat} (kf : KF K₁ GL) (N : InI K₁ q f c' D cA cI cN n) (hn : 1 ≤ n) (hn2 : n ≤ 40) : ∀ m, 1 ≤ m → m ≤ 1000 → InnerDoes w K₁ f D n m m := by
  intro m
  induction m using Nat.strongRecOn with
  | ind m ih =>
  intro hm1 hm2 A s X lo hi x ns vx vl vh Q E R kK hX hXD hlo hhi hns hx hx2 px pl ph hL c
  obtain ⟨doc, pm, ctv, hfn⟩ := N.fn
  obtain ⟨tN, hcN⟩ := N.kN
  have hDlive := hX D hXD
  obtain ⟨aD, vs0, n0, e0, hgD, hitD⟩ := hL
  cases e0
  have cellD : ∀ n c, List.lookup n [(Str.ofString "n", cN), (Str.ofString "inner", cI), (Str.ofString "a_digits", cA)] = some c → c ≠ D := by
    intro n c h z
    subst z
    rcases three h with ⟨_, e⟩ | ⟨_, e⟩ | ⟨_, e⟩
    · obtain ⟨o, e1, e2⟩ := hcN _ kK; rw [← e, hgD] at e1; cases e1; cases e2
    · obtain ⟨o, e1, e2⟩ := N.kI _ kK; rw [← e, hgD] at e1; cases e1; cases e2
    · obtain ⟨o, e1, e2⟩ := N.kA _ kK; rw [← e, hgD] at e1; cases e1; cases e2
  refine clo_run (ps := [("x", TInt x), ("L", TInt lo), ("R", TInt hi)]) (ρf := [("a_digits", .ownS "list" (ns.map TInt)), ("inner", .imm (TVal fun v => v = .ref f)), ("n", .imm (TInt n))])
    (cmf := fun z => List.lookup z [(Str.ofString "n", .int n tN), (Str.ofString "inner", .ref f), (Str.ofString "a_digits", .ref D)]) (X := X) (WD := fun b => b = D) kf (by have := R.dep; lia) kK hX (fun b z => z ▸ hXD) (fun b z => z ▸ N.dD) (kK _ _ hfn) (N.rec_ _ kK).code rfl ?_ ?_ ?_ ?_ ⟨px, pl, ph, trivial⟩ ?_ ?_ ?_ ?_
  · intro p hp
    simp only [List.mem_cons, List.not_mem_nil, or_false] at hp
    rcases hp with rfl | rfl | rfl <;> rfl
  · intro y hy
    have := List.all_eq_true.mp (show ((scopeOf innerI).names.all fun y => y.2 != .cell) = true from rfl) y hy
    simpa using this
  · intro n c h
    rcases three h with ⟨rfl, rfl⟩ | ⟨rfl, rfl⟩ | ⟨rfl, rfl⟩
    · exact hcN _ kK
    · exact N.kI _ kK
    · exact N.kA _ kK
  · intro n n' c h h'
    rcases three h with ⟨rfl, rfl⟩ | ⟨rfl, rfl⟩ | ⟨rfl, rfl⟩ <;> rcases three h' with ⟨rfl, e⟩ | ⟨rfl, e⟩ | ⟨rfl, e⟩ <;> first
      | rfl
      | exact absurd e N.d1
      | exact absurd e.symm N.d1
      | exact absurd e N.d2
      | exact absurd e.symm N.d2
      | exact absurd e N.d3
      | exact absurd e.symm N.d3
  · intro x e h
    have h2 := three h
    rcases h2 with ⟨rfl, rfl⟩ | ⟨rfl, rfl⟩ | ⟨rfl, rfl⟩
    · exact ⟨cA, .ref D, rfl, rfl, rfl, ⟨D, vs0, n0, rfl, hgD, hitD⟩, fun _ => ⟨D, rfl, rfl, cellD⟩⟩
    · exact ⟨cI, .ref f, rfl, rfl, rfl, rfl, fun h => by cases h⟩
    · exact ⟨cN, .int n tN, rfl, rfl, rfl, ⟨tN, rfl⟩, fun h => by cases h⟩
  · intro x y ex ey hx hy hox hoy
    rcases three hx with ⟨rfl, rfl⟩ | ⟨rfl, rfl⟩ | ⟨rfl, rfl⟩
    · rcases three hy with ⟨rfl, rfl⟩ | ⟨rfl, rfl⟩ | ⟨rfl, rfl⟩
      · rfl
      · cases hoy
      · cases hoy
    · cases hox
    · cases hox
  · intro x e h
    rcases three h with ⟨rfl, rfl⟩ | ⟨rfl, rfl⟩ | ⟨rfl, rfl⟩ <;> rfl
  · intro L hh tk E' keep hL I
    have I' : Inv (envX q (scopeOf innerI) L f (.ref c') [(Str.ofString "n", cN), (Str.ofString "inner", cI), (Str.ofString "a_digits", cA)]) K₁ (Bmax (fun b => b = D) s.heap) (fun b => X b ∧ ¬ b = D) (fun b => b = L ∨ b = D)
        [("R", .imm (TInt hi)), ("L", .imm (TInt lo)), ("x", .imm (TInt x)), ("a_digits", .ownS "list" (ns.map TInt)), ("inner", .imm (TVal fun v => v = .ref f)), ("n", .imm (TInt n))] hh := I
    -- what is handed back
    have fin : ∀ (W' : XS) (ρ' : Ctx) (h' : Heap) (tk' : Tok), Inv (envX q (scopeOf innerI) L f (.ref c') [(Str.ofString "n", cN), (Str.ofString "inner", cI), (Str.ofString "a_digits", cA)]) K₁ (Bmax (fun b => b = D) s.heap) (fun b => X b ∧ ¬ b = D) W' ρ' h' →
        ρ'.lookup (Str.ofString "a_digits") = some (.ownS "list" ((ns.take lo ++ DG n m x ++ ns.drop hi).map TInt)) → Q .none { s with heap := h', toks := tk' } := by
      intro W' ρ' h' tk' J hρ
      obtain ⟨m1, cm1, F1, V1, O1⟩ := J.body
      obtain ⟨v, hv, hp⟩ := V1 _ _ hρ
      obtain ⟨a, q1, q2, _⟩ := O1.inW _ _ hρ rfl
      rw [hv] at q1; cases q1
      obtain ⟨c0, hc0, hcm⟩ := cellOf_valOf hv (.inr rfl)
      cases hc0
      have : a = D := by
        have := cell_uniq (F1.cell _ _ (show List.lookup (Str.ofString "a_digits") [(Str.ofString "n", cN), (Str.ofString "inner", cI), (Str.ofString "a_digits", cA)] = some cA from rfl)) (N.kA _ J.subK)
        rw [hcm] at this; cases this; rfl
      subst this
      refine c h' tk' (fun b o hb e => J.sub b o (bmax_some hb e)) (LSeqP.refr hp fun b z => .inl ?_)
      by_cases hb : b = a
      · exact .inr (hb ▸ q2)
      · exact .inl ⟨z, hb⟩
    have Rd' : Room (A.deeper (envX q (scopeOf innerI) L f (.ref c') [(Str.ofString "n", cN), (Str.ofString "inner", cI), (Str.ofString "a_digits", cA)])) (m - 1) := (show Room A (m - 1 + 1) from by rw [Nat.sub_add_cancel hm1]; exact R).deeper
    by_cases h1 : m = 1
    · subst h1
      refine wpAny_execs_cons (wpAny_If (tst_cast (tst_eq (ev_add ev_v ev_int) ev_v) (show decide ((lo : Int) + 1 = hi) = true by simp; lia) _ { s with heap := hh, toks := tk } _ _ _ Rd' I'.subK I'.sat fun h₁ t₁ k₁ => ?_))
      simp only [if_true]
      refine wpAny_execs_cons ((exs_setL (j := lo) rfl rfl (ev_v (P := TInt x)) (ev_v (P := TInt lo)) rfl (by rw [List.length_map]; lia) (by rw [List.length_map]; lia)) _ { s with heap := h₁, toks := t₁ } _ _ _ _ _ Rd' (I'.keeps k₁) ?_)
      rintro fl h₂ t₂ ⟨rfl, W₂, I₂⟩
      refine wpAny_execs_cons (wpAny_Return_none (fin W₂ _ h₂ t₂ I₂ ?_))
      have e : (ns.map TInt).set lo (TInt x) = (ns.take lo ++ DG n 1 x ++ ns.drop hi).map TInt := by
        rw [DG_one n x (by simpa using hx), ← List.map_set, List.set_eq_take_append_cons_drop, if_pos (by lia)]
        subst hlo
        simp
      show some _ = some _
      rw [e]
    · have hk1 : 1 ≤ m / 2 := by lia
      have hk2 : m / 2 < m := by lia
      have hmid : ((lo : Int) + (hi : Int)).fdiv (2 ^ (1 : Int).toNat) = ((lo + m / 2 : Nat) : Int) := by
        have e : ((lo : Int) + (hi : Int)) = ((lo + hi : Nat) : Int) := by push_cast; rfl
        rw [e, show ((2 : Int) ^ (1 : Int).toNat) = ((2 : Nat) : Int) from rfl, ← Int.ofNat_fdiv]
        congr 1; lia
      have hsh : (((lo + m / 2 : Nat) : Int) - (lo : Int)) * (n : Int) = ((n * (m / 2) : Nat) : Int) := by
        push_cast; rw [Int.mul_comm]; congr 1; lia
      have hup : (x : Int).fdiv (2 ^ (((n * (m / 2) : Nat) : Int)).toNat) = ((x / 2 ^ (n * (m / 2)) : Nat) : Int) := by
        rw [Int.toNat_natCast, show ((2 : Int) ^ (n * (m / 2))) = ((2 ^ (n * (m / 2)) : Nat) : Int) from by push_cast; rfl, ← Int.ofNat_fdiv]
      have hlow : Builtin.bitXor (x : Int) (((x / 2 ^ (n * (m / 2)) : Nat) : Int) * 2 ^ (((n * (m / 2) : Nat) : Int)).toNat) = ((x % 2 ^ (n * (m / 2)) : Nat) : Int) := by
        rw [Int.toNat_natCast, ← bitXor_low]
        congr 1
      have hnk : n * (m / 2) ≤ 40000 := Nat.le_trans (Nat.mul_le_mul hn2 (show m / 2 ≤ 500 by lia)) (by decide)
      have hup2 : x / 2 ^ (n * (m / 2)) ≤ x := Nat.div_le_self _ _
      refine wpAny_execs_cons (wpAny_If (tst_cast (tst_eq (ev_add ev_v ev_int) ev_v) (show decide ((lo : Int) + 1 = hi) = false by simp; lia) _ { s with heap := hh, toks := tk } _ _ _ Rd' I'.subK I'.sat fun h₁ t₁ k₁ => ?_))
      simp only [Bool.false_eq_true, if_false]
      refine wpAny_execs_nil ?_
      have body : Ex PW w K₁ (envX q (scopeOf innerI) L f (.ref c') [(Str.ofString "n", cN), (Str.ofString "inner", cI), (Str.ofString "a_digits", cA)]) (m - 1)
          [("R", .imm (TInt hi)), ("L", .imm (TInt lo)), ("x", .imm (TInt x)), ("a_digits", .ownS "list" (ns.map TInt)), ("inner", .imm (TVal fun v => v = .ref f)), ("n", .imm (TInt n))] ((bodyOf innerI).drop 1)
          (.next [("a_digits", .ownS "list" ((ns.take lo ++ DG n m x ++ ns.drop hi).map TInt))]) := by
        refine ex_cons (exs_assign (P := TInt ((lo + m / 2 : Nat) : Int)) canLocal (ev_castI (ev_shr (ev_add ev_v ev_v) ev_int (by decide)) hmid)) ?_
        refine ex_cons (exs_assign (P := TInt ((n * (m / 2) : Nat) : Int)) canLocal (ev_castI (ev_mul (ev_sub ev_v ev_v) ev_v (IntMulOk.of_right (intBits_le_64 (by lia) (by lia)))) hsh)) ?_
        refine ex_cons (exs_assign (P := TInt ((x / 2 ^ (n * (m / 2)) : Nat) : Int)) canLocal (ev_castI (ev_shr ev_v ev_v (by lia)) hup)) ?_
        refine ex_cons (exs_assign (P := TInt ((x % 2 ^ (n * (m / 2)) : Nat) : Int)) canLocal (ev_castI (ev_xor ev_v (ev_shl ev_v ev_v (by lia) (by lia) (by rw [Int.natAbs_natCast]; lia))) hlow)) ?_
        refine ex_cons (exs_inner (lo := lo) (hi := lo + m / 2) (m := m / 2) (x := x % 2 ^ (n * (m / 2))) (ns := ns) N ((ih (m / 2) hk2 hk1 (by lia)).room (by lia)) rfl rfl rfl rfl (.inl rfl) ev_v ev_v ev_v rfl (by lia) hns (Nat.mod_lt _ (Nat.two_pow_pos _)) (by have := Nat.mod_le x (2 ^ (n * (m / 2))); lia)) ?_
        refine ex_out (ex_cons (exs_inner (lo := lo + m / 2) (hi := hi) (m := m - m / 2) (x := x / 2 ^ (n * (m / 2))) (ns := ns.take lo ++ DG n (m / 2) (x % 2 ^ (n * (m / 2))) ++ ns.drop (lo + m / 2)) N ((ih (m - m / 2) (by lia) (by lia) (by lia)).room (by lia)) rfl rfl rfl rfl (.inl rfl) ev_v ev_v ev_v (by lia) ?_ ?_ ?_ (by lia)) ex_nil) (less ⟨?_, trivial⟩)
        · simp [DG_len]; lia
        · simp [DG_len]; lia
        · rw [Nat.div_lt_iff_lt_mul (Nat.two_pow_pos _), ← Nat.pow_add, ← Nat.mul_add]
          have : m - m / 2 + m / 2 = m := by lia
          rw [this]; exact hx
        · have e : ((ns.take lo ++ DG n (m / 2) (x % 2 ^ (n * (m / 2))) ++ ns.drop (lo + m / 2)).take (lo + m / 2) ++ DG n (m - m / 2) (x / 2 ^ (n * (m / 2))) ++ (ns.take lo ++ DG n (m / 2) (x % 2 ^ (n * (m / 2))) ++ ns.drop (lo + m / 2)).drop hi) = ns.take lo ++ DG n m x ++ ns.drop hi := by
            have l1 : (ns.take lo ++ DG n (m / 2) (x % 2 ^ (n * (m / 2)))).length = lo + m / 2 := by
              rw [List.length_append, List.length_take, DG_len]; lia
            rw [List.take_left' l1, DG_split n m (m / 2) x (by lia)]
            have hd : (ns.take lo ++ DG n (m / 2) (x % 2 ^ (n * (m / 2))) ++ ns.drop (lo + m / 2)).drop hi = ns.drop hi := by
              have : hi = (ns.take lo ++ DG n (m / 2) (x % 2 ^ (n * (m / 2)))).length + (hi - (lo + m / 2)) := by rw [l1]; lia
              rw [this, ← List.drop_drop, List.drop_left, List.drop_drop]
              rw [l1]
            rw [hd]
            simp [List.append_assoc]
          show some _ = some _
          rw [e]
      refine body _ { s with heap := h₁, toks := t₁ } _ _ _ _ _ Rd' (I'.keeps k₁) ?_
      rintro fl h₂ t₂ ⟨rfl, W₂, I₂⟩
      exact fin W₂ _ h₂ t₂ I₂ rfl
end
end Mine

namespace Mine
open PySem PySem.Calls PySem.W

section
variable {prog : Program} {w : World} {K : PM} {gl : List (Str × Value)} {r : Nat}

/-- a def of the text is entered; T stays open -/
theorem fn_run {A : Around} {s : Shared} {X T : XS} {a : Addr} {o : Obj} {fd : FuncData} {body : List Stmt} {ps : List (Str × HV)} {vs : List Value} {Q : Value → Shared → Prop} {E : Value → Shared → Prop} (kf : KF K gl) (hroom : A.depth < recursionLimit) (kK : Sub K s.heap) (hX : ∀ b, X b → (s.heap.get? b).isSome = true)
    (hT : ∀ b, T b → K b = none) (ho : K a = some o) (hdata : o.data = .func fd) (hcd : ∀ h, Sub K h → h.CodeRec fd.code fd.qualname) (hbody : fd.body = .stmts body) (hclo : fd.closure = []) (hbind : bindArgs fd ⟨vs, []⟩ = pure ((ps.map (·.1)).zip vs))
    (hst : ∀ L p, p ∈ ps → CanStore (callEnvC fd L a) p.1) (hv : All2 (fun (P : HV) v => P.p X s.heap v) (ps.map (·.2)) vs)
    (h : ∀ hh tk E', (∀ b o, s.heap.get? b = some o → hh.get? b = some o) → Inv (callEnvC fd s.heap.objs.size a) K (Bmax T s.heap) X (fun b => b = s.heap.objs.size ∨ ∃ n, (callEnvC fd s.heap.objs.size a).cells.lookup n = some b) (ps.map fun p => (p.1, Ent.imm p.2)).reverse hh →
      wpAny (model prog w) (A.deeper (callEnvC fd s.heap.objs.size a)) (execs body (callEnvC fd s.heap.objs.size a)) (fun f s' => Q (match f with | .ret v => v | _ => .none) s') E' { s with heap := hh, toks := tk })
    (hco : fd.scope.isCoroutine = false := by rfl) (hgen : fd.scope.isGenerator = false := by rfl) (hk : fd.scope.kind = .function := by rfl) : wpAny (model prog w) A (call (.ref a) vs) Q E s := by
  refine wpAny_call (codeAny_call_cells hroom (kK a o ho) hdata (kf.nolimit _ kK) (hcd _ kK) hbody hbind hclo ?_ (fun s₁ x => ?_) hco hgen hk)
  · rintro ⟨n, v⟩ hm
    have hn := (List.of_mem_zip hm).1
    obtain ⟨p, hp, e⟩ := List.mem_map.mp hn
    have := (hst s.heap.objs.size p hp).ok
    rw [show p.1 = n from e] at this
    exact this
  · obtain ⟨hh, tk, rfl⟩ := x.toInCall.same
    have cellAbove : ∀ n c, (callEnvC fd s.heap.objs.size a).cells.lookup n = some c → s.heap.objs.size < c := fun n c hc => x.above n c (mem_of_lookup hc)
    refine h hh tk _ x.toInCall.keep ⟨fun a o e => bmax_some (fun q => by rw [hT a q] at e; cases e) (kK a o e), fun a o e => x.toInCall.keep a o (bmax_of e).2, fun b q => ⟨there_keeps hX x.toInCall.keep b q, fun z => ?_⟩, ?_, ?_, .inl rfl, fun n c hc _ => .inr ⟨n, hc⟩, fun n n' c h1 h2 => name_of_addr x.apart (mem_of_lookup h1) (mem_of_lookup h2), fun n c hc => Nat.ne_of_gt (cellAbove n c hc), _, _, ⟨x.toInCall.ns, x.cell⟩, ?_, ?_⟩
    · have := hX b q
      rcases z with rfl | ⟨n, hc⟩
      · rw [freshNone] at this; cases this
      · rw [Heap.get?_none_of_le (Nat.le_of_lt (cellAbove n b hc))] at this; cases this
    · intro b q
      cases e : Bmax T s.heap b with
      | none => rfl
      | some o =>
        have e2 := (bmax_of e).2
        rcases q with rfl | ⟨n, hc⟩
        · rw [freshNone] at e2; cases e2
        · rw [Heap.get?_none_of_le (Nat.le_of_lt (cellAbove n b hc))] at e2; cases e2
    · rintro b (rfl | ⟨n, hc⟩)
      · obtain ⟨o, _, _, e, _⟩ := x.toInCall.ns; exact liveAt e
      · obtain ⟨o, e, _⟩ := x.cell n b hc; exact liveAt e
    · intro y e hy
      obtain ⟨v, hl, hp⟩ := lookup_all2 hv hy
      refine ⟨v, ?_, ?_⟩
      · rw [valBind _ _ _ _ (fun p hp => ?_), hl]
        have hn := (List.of_mem_zip (show (p.1, p.2) ∈ _ from hp)).1
        obtain ⟨q, hq, e⟩ := List.mem_map.mp hn
        exact e ▸ hst s.heap.objs.size q hq
      · refine e.w.mono x.toInCall.keep (Ent.refr hp fun b q => ?_)
        rcases q with q | rfl | ⟨n, hc⟩
        · exact .inl q
        · exact .inr (freshNone _)
        · exact .inr (Heap.get?_none_of_le (Nat.le_of_lt (cellAbove n b hc)))
    · have noOwn : ∀ y e, (ps.map fun p => (p.1, Ent.imm p.2)).reverse.lookup y = some e → e.isOwn = true → False := by
        intro y e hy ho'
        obtain ⟨p, hp, hpe⟩ := List.mem_map.mp (List.mem_reverse.mp (mem_of_lookup' hy))
        cases hpe; cases ho'
      exact ⟨fun y e hy ho' => (noOwn y e hy ho').elim, fun y z ey ez b _ hy _ ho' _ _ => (noOwn y ey hy ho').elim⟩
end

noncomputable def FieldsKeep (h h' : Heap) : Prop := ∀ b o vs, h.get? b = some o → o.data = .fields vs → h'.get? b = some o
theorem FieldsKeep.of_keep {h h' : Heap} (k : ∀ b o, h.get? b = some o → h'.get? b = some o) : FieldsKeep h h' := fun b o _ e _ => k b o e
theorem FieldsKeep.trans {h₁ h₂ h₃ : Heap} (x : FieldsKeep h₁ h₂) (y : FieldsKeep h₂ h₃) : FieldsKeep h₁ h₃ := fun b o vs e d => y b o vs (x b o vs e d) d
theorem TabOk.fields {P : Addr} {pos : Pos} {q : Str} {h h' : Heap} (x : TabOk P pos q h) (k : FieldsKeep h h') : TabOk P pos q h' := by
  obtain ⟨ps, h1, h2⟩ := x
  refine ⟨ps, k _ _ ps h1 rfl, h2.imp id ?_⟩
  rintro ⟨c', e, o, vs, t, q1, q2, q3⟩
  exact ⟨c', e, o, vs, t, k _ _ _ q1 q2, q2, q3⟩
section
variable {prog : Program} {w : World} {K : PM} {env : Env} {r : Nat} {ρ : Ctx}
theorem exs_fields {st : Stmt} {O : Out} (h : ExS prog w K env r ρ st O) {A : Around} {s : Shared} {B : PM} {X₀ W : XS} {Q : Flow → Shared → Prop} {E : Value → Shared → Prop} (R : Room A r) (I : Inv env K B X₀ W ρ s.heap)
    (c : ∀ f h' tk, Ends env K B X₀ O f h' → FieldsKeep s.heap h' → Q f { s with heap := h', toks := tk }) : wpAny (model prog w) A (exec st env) Q E s := by
  obtain ⟨W', hW, hWf, I'⟩ := I.shrink
  refine h A s (Bmax W' s.heap) X₀ W' Q E R I'.max fun f h' tk En => c f h' tk (En.fewer I.kb fun a o e => I'.inMax e) fun b o vs e d => ?_
  have hb : ¬ W' b := fun z => hWf b o vs z e d
  cases O with
  | next ρ' => obtain ⟨_, W'', I''⟩ := En; exact I''.sub b o (bmax_some hb e)
  | ret P => obtain ⟨v, _, hs, _⟩ := En; exact hs b o (bmax_some hb e)
theorem ex_fields {ss : List Stmt} {O : Out} (h : Ex prog w K env r ρ ss O) {A : Around} {s : Shared} {B : PM} {X₀ W : XS} {Q : Flow → Shared → Prop} {E : Value → Shared → Prop} (R : Room A r) (I : Inv env K B X₀ W ρ s.heap)
    (c : ∀ f h' tk, Ends env K B X₀ O f h' → FieldsKeep s.heap h' → Q f { s with heap := h', toks := tk }) : wpAny (model prog w) A (execs ss env) Q E s := by
  obtain ⟨W', hW, hWf, I'⟩ := I.shrink
  refine h A s (Bmax W' s.heap) X₀ W' Q E R I'.max fun f h' tk En => c f h' tk (En.fewer I.kb fun a o e => I'.inMax e) fun b o vs e d => ?_
  have hb : ¬ W' b := fun z => hWf b o vs z e d
  cases O with
  | next ρ' => obtain ⟨_, W'', I''⟩ := En; exact I''.sub b o (bmax_some hb e)
  | ret P => obtain ⟨v, _, hs, _⟩ := En; exact hs b o (bmax_some hb e)
end

/-! ### _int2digits -/
noncomputable def posOf : Stmt → Pos
  | .FunctionDef _ _ _ _ _ _ _ _ _ p => p
  | _ => default
noncomputable def qI : Str := "_int2digits.<locals>.inner"
noncomputable def nDig (a n : Nat) : Nat := (Builtin.Int.intBits (a : Int) + n - 1) / n

structure FnAtC (K : PM) (k : Nat) (a c : Addr) : Prop where
  at_ : ∃ o pm doc, K a = some o ∧ o.data = .func (fdAt k pm (.ref c) doc) ∧ ∀ h, Sub K h → h.CodeRec (.ref c) (nameOf (stm k))
structure TabFacts (K : PM) (c P : Addr) : Prop where
  hd : ∀ h, Sub K h → CodeHd h c P
  ba : ∀ h mg, Sub K h → h.Ns mainGlobals mg → h.BuiltinsAt mg P
  none_ : K P = none
  ne : mainGlobals ≠ P

section
variable {w : World} {K : PM}
/-- what a def that makes a def does to the heap -/
noncomputable def Touch (P : Addr) (h h' : Heap) : Prop := ∀ b o, b ≠ P → h.get? b = some o → h'.get? b = some o

set_option maxHeartbeats 1000000 in
open Classical in
theorem call_inner {env : Env} {ρ : Ctx} {A : Around} {s : Shared} {B : PM} {X₀ W : XS} {q : Str} {f c' cA cI cN : Addr} {n m x : Nat} {r : Nat} {ns : List Int} {doc pm ctv : Value} {e1 e2 e3 : Expr} {p pos spos : Pos} {Q : Flow → Shared → Prop} {E : Value → Shared → Prop} (kf : KF K GL) (R : Room A r) (hmr : m ≤ r)
    (I : Inv env K B X₀ W ρ s.heap) (hk : env.scope.kind = .function) (hA : ρ.lookup (Str.ofString "a_digits") = some (.ownS "list" (ns.map TInt))) (hI : ρ.lookup (Str.ofString "inner") = some (.imm (TVal fun v => v = .ref f))) (hN : ρ.lookup (Str.ofString "n") = some (.imm (TInt n)))
    (hcA : env.cells.lookup (Str.ofString "a_digits") = some cA) (hcI : env.cells.lookup (Str.ofString "inner") = some cI) (hcN : env.cells.lookup (Str.ofString "n") = some cN) (hkA : env.kindOf "a_digits" = some .cell) (hkI : env.kindOf "inner" = some .cell) (hkN : env.kindOf "n" = some .cell)
    (hf : s.heap.get? f = some (fnMade "inner" q (paramsOf innerI) (bodyOf innerI) (scopeOf innerI) [("n", cN), ("inner", cI), ("a_digits", cA)] doc pm c' ctv)) (hrec : Rec s.heap c' q) (hn : 1 ≤ n) (hn2 : n ≤ 40) (hm : 1 ≤ m)
    (h1 : Ev PW w K env r ρ e1 (TInt x)) (h2 : Ev PW w K env r ρ e2 (TInt (0 : Nat))) (h3 : Ev PW w K env r ρ e3 (TInt m)) (hns : ns.length = m) (hns2 : m ≤ 1000) (hx : x < 2 ^ (n * m)) (hx2 : x < 2 ^ 40)
    (c : ∀ h' tk, Inv env K B X₀ W (("a_digits", .ownS "list" ((DG n m x).map TInt)) :: ρ) h' → FieldsKeep s.heap h' → Q .next { s with heap := h', toks := tk })
    (hst1 : starEach [e1, e2, e3] env = (false, eval e1 env) :: starEach [e2, e3] env := by rfl) (hst2 : starEach [e2, e3] env = (false, eval e2 env) :: starEach [e3] env := by rfl) (hst3 : starEach [e3] env = [(false, eval e3 env)] := by rfl) (hi0 : interactive env = false := by rfl) :
    wpAny (model PW w) A (exec (.Expr (.Call (.Name "inner" p) [e1, e2, e3] [] pos) spos) env) Q E s := by
  refine wpAny_Expr ?_ hi0
  show wpAny _ A (do callWith pos (← eval (.Name "inner" p) env) [] (backTo pos (starEach [e1, e2, e3] env)) (backToKw pos (keywordEach [] env))) _ E s
  have evI : Ev PW w K env r ρ (.Name "inner" p) (TVal fun v => v = .ref f).w := ev_v (hk := hk) (hx := hI)
  refine wpAny_bind (evI A s _ _ E R I.subK I.sat ?_)
  rintro v h₀ t₀ k₀ rfl
  have I₀ := I.keeps k₀
  have hargs := evl_cons (pos := pos) h1 (evl_cons h2 (evl_cons h3 evl_nil hst3) hst2) hst1
  refine Calls.callWith_function (s := { s with heap := h₀, toks := t₀ }) (o := _) (fd := _) (evalArgs_trees hargs.plain (hargs.run A _ _ _ _ R I₀.subK I₀.sat fun vs h' tk kp pv => ⟨⟨kp _ _ (k₀ _ _ hf), rfl⟩, ?_⟩))
  have I₁ := I₀.keeps kp
  have k01 : ∀ b o, s.heap.get? b = some o → h'.get? b = some o := fun b o e => kp b o (k₀ b o e)
  obtain ⟨vx, vl, vh, rfl, p1, p2, p3⟩ := vs3 pv
  obtain ⟨m1, cm1, F1, V1, O1⟩ := I₁.body
  obtain ⟨v, hv, hp⟩ := V1 _ _ hA
  obtain ⟨D, q1, q2, q3, q4⟩ := O1.inW _ _ hA rfl
  rw [hv] at q1; cases q1
  obtain ⟨c0, hc0, hcm⟩ := cellOf_valOf hv (.inl hkA)
  rw [hcA] at hc0; cases hc0
  obtain ⟨vI, hvI, hpI⟩ := V1 _ _ hI
  obtain ⟨c1, hc1, hcmI⟩ := cellOf_valOf hvI (.inl hkI)
  rw [hcI] at hc1; cases hc1
  cases hpI
  obtain ⟨vN, hvN, tN, rfl⟩ := V1 _ _ hN
  obtain ⟨c2, hc2, hcmN⟩ := cellOf_valOf hvN (.inl hkN)
  rw [hcN] at hc2; cases hc2
  have hp' := hp
  obtain ⟨D', us, nn, eD, hgD, hitD⟩ := hp
  cases eD
  obtain ⟨oc, vsr, tr, er, dr, vr⟩ := hrec
  let S : Addr → Prop := fun b => b = f ∨ b = c' ∨ b = cA ∨ b = cI ∨ b = cN
  let K₁ : PM := fun b => if S b then h'.get? b else K b
  have K₁S : ∀ b, S b → K₁ b = h'.get? b := fun b hb => if_pos hb
  have hKK : ∀ a o, K a = some o → K₁ a = some o := fun a o e => by
    by_cases hb : S a
    · rw [K₁S a hb]; exact I₁.subK a o e
    · show (if S a then h'.get? a else K a) = _; rw [if_neg hb]; exact e
  have hSub : Sub K₁ h' := fun a o e => by
    by_cases hb : S a
    · rw [K₁S a hb] at e; exact e
    · have : K₁ a = K a := if_neg hb
      rw [this] at e; exact I₁.subK a o e
  have cellAt : ∀ cc vv, S cc → h'.IsCell cc vv → ∀ h, Sub K₁ h → h.IsCell cc vv := fun cc vv hs hc h hsub => by
    obtain ⟨o, e1, e2⟩ := hc
    exact ⟨o, hsub _ _ (by rw [K₁S cc hs]; exact e1), e2⟩
  have N : InI K₁ q f c' D cA cI cN n := by
    refine ⟨⟨doc, pm, ctv, by rw [K₁S f (.inl rfl)]; exact k01 _ _ hf⟩, fun h hs => ⟨oc, vsr, tr, hs _ _ (by rw [K₁S c' (.inr (.inl rfl))]; exact k01 _ _ er), dr, vr⟩, cellAt cA _ (.inr (.inr (.inl rfl))) (hcm ▸ F1.cell _ _ hcA), cellAt cI _ (.inr (.inr (.inr (.inl rfl)))) (hcmI ▸ F1.cell _ _ hcI),
      ⟨tN, cellAt cN _ (.inr (.inr (.inr (.inr rfl)))) (hcmN ▸ F1.cell _ _ hcN)⟩, fun z => ?_, fun z => ?_, fun z => ?_, ?_⟩
    · have := I.apart _ _ _ hcA (z ▸ hcI); revert this; decide
    · have := I.apart _ _ _ hcA (z ▸ hcN); revert this; decide
    · have := I.apart _ _ _ hcI (z ▸ hcN); revert this; decide
    · have hnS : ¬ S D := by
        rintro (z | z | z | z | z)
        · rw [z] at hgD; rw [k01 _ _ hf] at hgD; have e9 := congrArg Obj.data (Option.some.inj hgD); simp [fnMade] at e9
        · rw [z] at hgD; rw [k01 _ _ er] at hgD; cases hgD; cases dr
        · exact q4 _ _ hcA z.symm
        · exact q4 _ _ hcI z.symm
        · exact q4 _ _ hcN z.symm
      show (if S D then h'.get? D else K D) = none
      rw [if_neg hnS]
      cases e : K D with
      | none => rfl
      | some o => have := I₁.kb D o e; rw [I₁.off D q2] at this; cases this
  refine inner_does (kf.mono hKK) N hn hn2 m hm hns2 A { s with heap := h', toks := tk } (fun b => X₀ b ∨ W b) 0 m x ns vx vl vh _ E (R.le hmr) hSub I₁.sat.1 (.inr q2) (by lia) (by lia) (by lia) hx hx2 p1 p2 p3 hp' fun h'' tk' k'' hl => ?_
  have e0 : ns.take 0 ++ DG n m x ++ ns.drop m = DG n m x := by rw [← hns]; simp
  rw [e0] at hl
  have ⟨a', vs', n', e1', ho', _⟩ := hl
  cases e1'
  refine c h'' tk' (I₁.poke2 (e' := .ownS "list" ((DG n m x).map TInt)) hA rfl rfl (fun m' cm' F' => by rw [Fm.uniq F' F1]; exact hv) (fun b o hb e => k'' b o hb e) hl (liveAt ho')) fun b o vs e d => k'' b o (fun z => ?_) (k01 b o e)
  have := k01 b o e
  rw [z, hgD] at this; cases this; cases d

set_option maxHeartbeats 4000000 in
theorem int2digits_does {a n : Nat} (kf : KF K GL) (F : FnAtC K 9 94 93) (TF : TabFacts K 93 89) (hn : 1 ≤ n) (hn2 : n ≤ 40) (ha : a < 2 ^ 40) (hm : nDig a n ≤ 900) {A : Around} {s : Shared} {X : XS} {va vn : Value} {Q : Value → Shared → Prop} {E : Value → Shared → Prop}
    (R : Room A (nDig a n + 2)) (kK : Sub K s.heap) (hX : ∀ b, X b → (s.heap.get? b).isSome = true) (hXP : X 89) (pa : ∃ t, va = .int a t) (pn : ∃ t, vn = .int n t) (T : TabOk 89 (posOf innerI) qI s.heap)
    (c : ∀ v h' tk, Touch 89 s.heap h' → TabOk 89 (posOf innerI) qI h' → (TList ((DG n (nDig a n) a).map TInt)).p X h' v → Q v { s with heap := h', toks := tk }) :
    wpAny (model PW w) A (call (.ref 94) [va, vn]) Q E s := by
  obtain ⟨o, pm, doc, ho, hd, hc⟩ := F.at_
  refine fn_run (ps := [("a", TInt a), ("n", TInt n)]) (T := fun b => b = 89) kf (by have := R.dep; lia) kK hX (fun b z => z ▸ TF.none_) ho hd hc rfl rfl rfl (fun L => canP ⟨canLocal, canCell, trivial⟩) ⟨pa, pn, trivial⟩ fun hh tk E' keep I => ?_
  have Rd : Room (A.deeper (callEnvC (fdAt 9 pm (.ref 93) doc) s.heap.objs.size 94)) (nDig a n + 1) := R.deeper
  have hbits : 0 ≤ Builtin.Int.intBits (a : Int) := by lia
  have hdiv : ((Builtin.Int.intBits (a : Int) : Int) + (n : Int) - 1).fdiv (n : Int) = ((nDig a n : Nat) : Int) := by
    unfold nDig
    rw [Int.ofNat_fdiv]
    congr 1
    lia
  let env := callEnvC (fdAt 9 pm (.ref 93) doc) s.heap.objs.size 94
  have hrep : List.replicate (((nDig a n : Nat) : Int)).toNat (TInt 0) = (List.replicate (nDig a n) (0 : Int)).map TInt := by rw [Int.toNat_natCast, List.map_replicate]
  have s1 : ExS PW w K env (nDig a n + 1) [("n", .imm (TInt n)), ("a", .imm (TInt a))] ((bodyOf (stm 9)).getD 0 (.Pass default)) (.next (("a_digits", .ownS "list" ((List.replicate (nDig a n) (0 : Int)).map TInt)) :: [("n", .imm (TInt n)), ("a", .imm (TInt a))])) := by
    rw [← hrep]
    refine exs_new_listF [("n", .imm (TInt n)), ("a", .imm (TInt a))] canCell (ev_mulL (P := TInt 0) (lOf (ev_list (evl_cons (P := (TInt 0).w) ev_int evl_nil))) (ev_castI (ev_fdiv (ev_sub (ev_add (ev_bits ev_v) ev_v) ev_int) ev_v (by lia) ?_) hdiv) (by lia) (by lia)) ?_ (fun x e h => h) ?_
    · exact PyProof.noPylong_small (by lia)
    · intro P hP; rw [List.mem_replicate] at hP; rw [hP.2]; exact flat_int
    · intro x e h
      rw [List.lookup_cons] at h
      cases hb : x == (Str.ofString "n") with
      | true => rw [hb] at h; cases h; exact ⟨_, rfl, flat_int⟩
      | false =>
        rw [hb, List.lookup_cons] at h
        cases hb2 : x == (Str.ofString "a") with
        | true => rw [hb2] at h; cases h; exact ⟨_, rfl, flat_int⟩
        | false => rw [hb2] at h; cases h
  refine wpAny_execs_cons (exs_fields s1 (s := { s with heap := hh, toks := tk }) Rd I ?_)
  rintro fl h₁ t₁ ⟨rfl, W₁', I₁'⟩ fk₁
  have T₁ : TabOk 89 (posOf innerI) qI h₁ := (T.fields (FieldsKeep.of_keep keep)).fields fk₁
  obtain ⟨W₁, _, hWf, I₁⟩ := I₁'.shrink
  have hcl : closureFor (scopeOf innerI) env = (pure [(Str.ofString "n", s.heap.objs.size + 1), (Str.ofString "inner", s.heap.objs.size + 3), (Str.ofString "a_digits", s.heap.objs.size + 2)] : Sem (List (Str × Addr))) := by rfl
  refine wpAny_execs_cons (def_run (s := { s with heap := h₁, toks := t₁ }) kf rfl I₁ canCell ⟨hXP, bmax_off rfl⟩ T₁ TF.hd TF.ba hWf rfl hcl TF.ne rfl rfl rfl fun f c' dc pmv ctv h₂ t₂ I₂ T₂ hf hfn hrec k₂ => ?_)
  -- if a: inner(a, 0, len(a_digits))
  have ns0 : (List.replicate (nDig a n) (0 : Int)).length = nDig a n := List.length_replicate
  have last : ∀ (h₃ : Heap) (t₃ : Nat) (ρ' : Ctx), Inv env K (Bmax (fun b => b = 89) s.heap) X W₁ ρ' h₃ → ρ'.lookup (Str.ofString "a_digits") = some (.ownS "list" ((DG n (nDig a n) a).map TInt)) → FieldsKeep h₂ h₃ →
      wpAny (model PW w) (A.deeper env) (execs ((bodyOf (stm 9)).drop 3) env) (fun f s' => Q (match f with | .ret v => v | _ => .none) s') E' { s with heap := h₃, toks := t₃ } := by
    intro h₃ t₃ ρ' I₃ hρ fk
    have re : Ex PW w K env (nDig a n + 1) ρ' ((bodyOf (stm 9)).drop 3) (.ret (TList ((DG n (nDig a n) a).map TInt))) := ex_freeze hρ (ex_ret (exs_return (ev_v (hx := rfl))))
    refine ex_fields re Rd I₃ ?_
    rintro fl h₄ t₄ ⟨v, rfl, hs, hp⟩ fk₄
    exact c v h₄ t₄ (fun b o hb e => hs b o (bmax_some hb e)) ((T₂.fields fk).fields fk₄) hp
  by_cases ha0 : a = 0
  · have e0 : nDig a n = 0 := by
      subst ha0
      unfold nDig
      show (Builtin.Int.intBits 0 + n - 1) / n = 0
      have : Builtin.Int.intBits 0 = 0 := rfl
      rw [this]
      exact Nat.div_eq_of_lt (by lia)
    refine wpAny_execs_cons (wpAny_If (tst_cast (tst_int (ev_v (P := TInt a))) (show decide ((a : Int) ≠ 0) = false by subst ha0; rfl) _ { s with heap := h₂, toks := t₂ } _ _ _ Rd I₂.subK I₂.sat fun h₃ t₃ k₃ => ?_))
    simp only [Bool.false_eq_true, if_false]
    refine wpAny_execs_nil (last h₃ t₃ _ (I₂.keeps k₃) ?_ (FieldsKeep.of_keep k₃))
    rw [e0]; rfl
  · have hbit : Builtin.Int.intBits (a : Int) = a.log2 + 1 := by
      unfold Builtin.Int.intBits
      rw [if_neg (by simpa using ha0)]
      rfl
    have hmd : a.log2 + 1 ≤ n * nDig a n := by
      unfold nDig
      rw [hbit]
      have := Nat.lt_div_mul_add (a := a.log2 + 1 + n - 1) (b := n) (by lia)
      rw [Nat.mul_comm]
      lia
    have hx : a < 2 ^ (n * nDig a n) := Nat.lt_of_lt_of_le (Nat.lt_log2_self (n := a)) (Nat.pow_le_pow_right (by decide) hmd)
    have hm1 : 1 ≤ nDig a n := by
      rcases Nat.eq_zero_or_pos (nDig a n) with z | z
      · rw [z] at hmd; lia
      · exact z
    refine wpAny_execs_cons (wpAny_If (tst_cast (tst_int (ev_v (P := TInt a))) (show decide ((a : Int) ≠ 0) = true by simpa using ha0) _ { s with heap := h₂, toks := t₂ } _ _ _ Rd I₂.subK I₂.sat fun h₃ t₃ k₃ => ?_))
    simp only [if_true]
    obtain ⟨ocr, vsr, tr, er, dr, vr⟩ := hrec
    refine wpAny_execs_cons (call_inner (s := { s with heap := h₃, toks := t₃ }) (m := nDig a n) (x := a) (n := n) (ns := List.replicate (nDig a n) (0 : Int)) kf Rd (by lia) (I₂.keeps k₃) rfl rfl rfl rfl rfl rfl rfl rfl rfl rfl (k₃ _ _ hf) ⟨ocr, vsr, tr, k₃ _ _ er, dr, vr⟩ hn hn2 hm1 ev_v ev_int
      (ev_castI (ev_lenL (Ps := (List.replicate (nDig a n) (0 : Int)).map TInt) kf rfl rfl rfl ev_oS (by rw [List.length_map, ns0]; lia)) (by rw [List.length_map, ns0])) ns0 (by lia) hx ha fun h₄ t₄ I₄ fk₄ => ?_)
    exact wpAny_execs_nil (last h₄ t₄ _ I₄ rfl ((FieldsKeep.of_keep k₃).trans fk₄))
end
end Mine

namespace Mine
open PySem PySem.Calls PySem.W

noncomputable def DV (n : Nat) : List Nat → Nat
  | [] => 0
  | d :: ds => d + 2 ^ n * DV n ds
theorem DV_app (n : Nat) (a b : List Nat) : DV n (a ++ b) = DV n a + 2 ^ (n * a.length) * DV n b := by
  induction a with
  | nil => simp [DV]
  | cons d a ih =>
    show d + 2 ^ n * DV n (a ++ b) = d + 2 ^ n * DV n a + _
    rw [ih, List.length_cons, Nat.mul_add, Nat.mul_succ, Nat.pow_add, Nat.mul_comm (2 ^ (n * a.length)) (2 ^ n), Nat.mul_assoc, Nat.add_assoc]
theorem DV_part (n : Nat) (ds : List Nat) (lo m : Nat) : DV n ((ds.drop lo).take m) ≤ DV n ds := by
  have h1 : DV n ds = DV n (ds.take lo) + 2 ^ (n * (ds.take lo).length) * DV n (ds.drop lo) := by rw [← DV_app, List.take_append_drop]
  have h2 : DV n (ds.drop lo) = DV n ((ds.drop lo).take m) + 2 ^ (n * ((ds.drop lo).take m).length) * DV n ((ds.drop lo).drop m) := by rw [← DV_app, List.take_append_drop]
  have h3 : DV n (ds.drop lo) ≤ 2 ^ (n * (ds.take lo).length) * DV n (ds.drop lo) := Nat.le_mul_of_pos_left _ (Nat.two_pow_pos _)
  lia
theorem DV_split (n : Nat) (ds : List Nat) (lo m k : Nat) (hk : k ≤ m) (h : lo + m ≤ ds.length) : DV n ((ds.drop lo).take m) = DV n ((ds.drop lo).take k) + 2 ^ (n * k) * DV n ((ds.drop (lo + k)).take (m - k)) := by
  have e : (ds.drop lo).take m = (ds.drop lo).take k ++ (ds.drop (lo + k)).take (m - k) := by
    have : m = k + (m - k) := by lia
    conv => lhs; rw [this, List.take_add, List.drop_drop]
  rw [e, DV_app, List.length_take, List.length_drop]
  have : min k (ds.length - lo) = k := by lia
  rw [this]

section
variable {prog : Program} {w : World} {K : PM} {env : Env} {r : Nat} {ρ : Ctx}
theorem tst_list {e : Expr} {Ps : List HV} (h : Ev prog w K env r ρ e (LSeq "list" Ps)) (hfit : Ps.length < 2 ^ 62) (he : ∀ whole, isTrue e env whole = (do let v ← whole; standAt e.pos; holding [v] (truthy v)) := by intro _; rfl) : Tst prog w K env r ρ e (!Ps.isEmpty) := by
  intro A s X Q E R k S c
  refine wpAny_isTrue_value (h A s X _ _ R k S ?_) (he _)
  intro v h' tk kp p
  obtain ⟨l, us, rfl, hl, _, hi⟩ := LSeqP.isList p
  have hlen : us.toList.length = Ps.length := hi.length.symm
  have hsz : us.size = Ps.length := by rw [← hlen, Array.length_toList]
  refine wpAny_truthy_list hl (by lia) ?_
  have := c h' (tk + 1 + 1) kp
  have e : (!us.isEmpty) = !Ps.isEmpty := by
    unfold Array.isEmpty
    rw [hsz]
    cases Ps <;> simp
  rw [e]; exact this
end

noncomputable def innerD : Stmt := (bodyOf (stm 10)).getD 0 (.Pass default)
structure InD (K₁ : PM) (q : Str) (f c' D cD cI cN : Addr) (n : Nat) (ds : List Nat) : Prop where
  fn : ∃ doc pm ctv, K₁ f = some (fnMade "inner" q (paramsOf innerD) (bodyOf innerD) (scopeOf innerD) [("n", cN), ("inner", cI), ("digits", cD)] doc pm c' ctv)
  rec_ : ∀ h, Sub K₁ h → Rec h c' q
  kD : ∀ h, Sub K₁ h → h.IsCell cD (some (.ref D))
  kI : ∀ h, Sub K₁ h → h.IsCell cI (some (.ref f))
  kN : ∃ t, ∀ h, Sub K₁ h → h.IsCell cN (some (.int n t))
  d1 : cD ≠ cI
  d2 : cD ≠ cN
  d3 : cI ≠ cN
  lst : ∀ X h, Sub K₁ h → ¬ X D → (TList (ds.map fun (d : Nat) => TInt d)).p X h (.ref D)

section
variable {w : World} {K K₁ : PM} {r : Nat}
noncomputable def InnerRd (w : World) (K₁ : PM) (f D : Addr) (n : Nat) (ds : List Nat) (rr m : Nat) : Prop :=
  ∀ (A : Around) (s : Shared) (X : XS) (lo hi : Nat) (vl vh : Value) (Q : Value → Shared → Prop) (E : Value → Shared → Prop), Room A rr → Sub K₁ s.heap → (∀ b, X b → (s.heap.get? b).isSome = true) → ¬ X D → lo + m = hi → hi ≤ ds.length →
    (∃ t, vl = .int lo t) → (∃ t, vh = .int hi t) →
    (∀ v h' tk, (∀ b o, s.heap.get? b = some o → h'.get? b = some o) → (∃ t, v = .int (DV n ((ds.drop lo).take m) : Nat) t) → Q v { s with heap := h', toks := tk }) →
    wpAny (model PW w) A (call (.ref f) [vl, vh]) Q E s

theorem ev_innerD {env : Env} {ρ : Ctx} {q : Str} {f c' D cD cI cN : Addr} {n m lo hi : Nat} {ds : List Nat} {e1 e2 : Expr} {p pos : Pos} (N : InD K₁ q f c' D cD cI cN n ds) (hdo : InnerRd w K₁ f D n ds r m) (hk : env.scope.kind = .function)
    (hA : ρ.lookup (Str.ofString "digits") = some (.imm (TList (ds.map fun (d : Nat) => TInt d)))) (hI : ρ.lookup (Str.ofString "inner") = some (.imm (TVal fun v => v = .ref f))) (hcA : env.cells.lookup (Str.ofString "digits") = some cD) (hkA : env.kindOf "digits" = some .free ∨ env.kindOf "digits" = some .cell)
    (h1 : Ev PW w K₁ env r ρ e1 (TInt lo)) (h2 : Ev PW w K₁ env r ρ e2 (TInt hi)) (hm : lo + m = hi) (hhi : hi ≤ ds.length)
    (hst1 : starEach [e1, e2] env = (false, eval e1 env) :: starEach [e2] env := by rfl) (hst2 : starEach [e2] env = [(false, eval e2 env)] := by rfl) :
    Ev PW w K₁ env r ρ (.Call (.Name "inner" p) [e1, e2] [] pos) (TInt (DV n ((ds.drop lo).take m) : Nat)) := by
  intro A s X Q E R k S c
  show wpAny _ A (do callWith pos (← eval (.Name "inner" p) env) [] (backTo pos (starEach [e1, e2] env)) (backToKw pos (keywordEach [] env))) _ E s
  have evI : Ev PW w K₁ env r ρ (.Name "inner" p) (TVal fun v => v = .ref f).w := ev_v (hk := hk) (hx := hI)
  refine wpAny_bind (evI A s _ _ E R k S ?_)
  rintro v h₀ t₀ k₀ rfl
  have hargs := evl_cons (pos := pos) h1 (evl_cons h2 evl_nil hst2) hst1
  obtain ⟨doc, pm, ctv, hfn⟩ := N.fn
  refine Calls.callWith_function (s := { s with heap := h₀, toks := t₀ }) (o := _) (fd := _) (evalArgs_trees hargs.plain (hargs.run A _ _ _ _ R (k.keeps k₀) (S.keeps k₀) fun vs h' tk kp pv => ⟨⟨((k.keeps k₀).keeps kp) _ _ hfn, rfl⟩, ?_⟩))
  have S₁ := (S.keeps k₀).keeps kp
  obtain ⟨vl, vh, rfl, p2, p3⟩ := vs2 pv
  have hXD : ¬ X D := by
    obtain ⟨m1, cm1, F1, V1⟩ := S₁.2
    obtain ⟨v, hv, hp⟩ := V1 _ _ hA
    obtain ⟨c0, hc0, hcm⟩ := cellOf_valOf hv hkA.symm
    rw [hcA] at hc0; cases hc0
    have := cell_uniq (F1.cell _ _ hcA) (N.kD _ ((k.keeps k₀).keeps kp))
    rw [hcm] at this
    cases this
    obtain ⟨⟨a, e, hX⟩, _⟩ := hp
    cases e; exact hX
  exact hdo A { s with heap := h', toks := tk } X lo hi vl vh _ E R ((k.keeps k₀).keeps kp) S₁.1 hXD hm hhi p2 p3 fun v h'' tk' k'' pv => c v h'' tk' (fun b o e => k'' b o (kp b o (k₀ b o e))) pv

theorem InnerRd.room {f D : Addr} {n rr rr' m : Nat} {ds : List Nat} (h : InnerRd w K₁ f D n ds rr m) (hr : rr ≤ rr') : InnerRd w K₁ f D n ds rr' m :=
  fun A s X lo hi vl vh Q E R => h A s X lo hi vl vh Q E (R.le hr)

set_option maxHeartbeats 1000000 in
theorem inner_reads {q : Str} {f c' D cD cI cN : Addr} {n : Nat} {ds : List Nat} (kf : KF K₁ GL) (N : InD K₁ q f c' D cD cI cN n ds) (hn : 1 ≤ n) (hn2 : n ≤ 40) (hlen : ds.length ≤ 1000) (hV : DV n ds < 2 ^ 40) : ∀ m, 1 ≤ m → m ≤ 1000 → InnerRd w K₁ f D n ds m m := by
  intro m
  induction m using Nat.strongRecOn with
  | ind m ih =>
  intro hm1 hm2 A s X lo hi vl vh Q E R kK hX hXD hlo hhi pl ph c
  obtain ⟨doc, pm, ctv, hfn⟩ := N.fn
  obtain ⟨tN, hcN⟩ := N.kN
  refine clo_run (ps := [("L", TInt lo), ("R", TInt hi)]) (ρf := [("digits", .imm (TList (ds.map fun (d : Nat) => TInt d))), ("inner", .imm (TVal fun v => v = .ref f)), ("n", .imm (TInt n))])
    (cmf := fun z => List.lookup z [(Str.ofString "n", .int n tN), (Str.ofString "inner", .ref f), (Str.ofString "digits", .ref D)]) (X := X) (WD := fun b => False) kf (by have := R.dep; lia) kK hX (fun b z => z.elim) (fun b z => z.elim) (kK _ _ hfn) (N.rec_ _ kK).code rfl ?_ ?_ ?_ ?_ ⟨pl, ph, trivial⟩ ?_ ?_ ?_ ?_
  · intro p hp
    simp only [List.mem_cons, List.not_mem_nil, or_false] at hp
    rcases hp with rfl | rfl <;> rfl
  · intro y hy
    have := List.all_eq_true.mp (show ((scopeOf innerD).names.all fun y => y.2 != .cell) = true from rfl) y hy
    simpa using this
  · intro n c h
    rcases three h with ⟨rfl, rfl⟩ | ⟨rfl, rfl⟩ | ⟨rfl, rfl⟩
    · exact hcN _ kK
    · exact N.kI _ kK
    · exact N.kD _ kK
  · intro n n' c h h'
    rcases three h with ⟨rfl, rfl⟩ | ⟨rfl, rfl⟩ | ⟨rfl, rfl⟩ <;> rcases three h' with ⟨rfl, e⟩ | ⟨rfl, e⟩ | ⟨rfl, e⟩ <;> first
      | rfl
      | exact absurd e N.d1
      | exact absurd e.symm N.d1
      | exact absurd e N.d2
      | exact absurd e.symm N.d2
      | exact absurd e N.d3
      | exact absurd e.symm N.d3
  · intro x e h
    rcases three h with ⟨rfl, rfl⟩ | ⟨rfl, rfl⟩ | ⟨rfl, rfl⟩
    · exact ⟨cD, .ref D, rfl, rfl, rfl, N.lst X _ kK hXD, fun h => by cases h⟩
    · exact ⟨cI, .ref f, rfl, rfl, rfl, rfl, fun h => by cases h⟩
    · exact ⟨cN, .int n tN, rfl, rfl, rfl, ⟨tN, rfl⟩, fun h => by cases h⟩
  · intro x y ex ey hx hy hox hoy
    rcases three hx with ⟨rfl, rfl⟩ | ⟨rfl, rfl⟩ | ⟨rfl, rfl⟩ <;> cases hox
  · intro x e h
    rcases three h with ⟨rfl, rfl⟩ | ⟨rfl, rfl⟩ | ⟨rfl, rfl⟩ <;> rfl
  · intro L hh tk E' keep hL I
    let env := envX q (scopeOf innerD) L f (.ref c') [(Str.ofString "n", cN), (Str.ofString "inner", cI), (Str.ofString "digits", cD)]
    let ρ : Ctx := [("R", .imm (TInt hi)), ("L", .imm (TInt lo)), ("digits", .imm (TList (ds.map fun (d : Nat) => TInt d))), ("inner", .imm (TVal fun v => v = .ref f)), ("n", .imm (TInt n))]
    have I' : Inv env K₁ (Bmax (fun b => False) s.heap) (fun b => X b ∧ ¬ False) (fun b => b = L ∨ False) ρ hh := I
    have Rd' : Room (A.deeper env) (m - 1) := (show Room A (m - 1 + 1) from by rw [Nat.sub_add_cancel hm1]; exact R).deeper
    have body : Ex PW w K₁ env (m - 1) ρ (bodyOf innerD) (.ret (TInt (DV n ((ds.drop lo).take m) : Nat))) := by
      by_cases h1 : m = 1
      · subst h1
        have hget : ds[lo]? = some (ds[lo]'(by lia)) := List.getElem?_eq_getElem (by lia)
        have hval : DV n ((ds.drop lo).take 1) = ds[lo]'(by lia) := by
          rw [List.drop_eq_getElem_cons (by lia), List.take_succ_cons, List.take_zero]; show _ + 2 ^ n * 0 = _; rw [Nat.mul_zero, Nat.add_zero]
        rw [hval]
        refine ex_ret (exs_if (c := true) (tst_cast (tst_eq (ev_add ev_v ev_int) ev_v) (by simp; lia)) (fun _ => ex_ret (exs_return (ev_item_list (lOf ev_v) ev_v (by lia) ?_ (by lia)))) (fun h => by cases h))
        rw [Int.toNat_natCast, List.getElem?_map, hget]; rfl
      · have hk1 : 1 ≤ m / 2 := by lia
        have hk2 : m / 2 < m := by lia
        have hmid : ((lo : Int) + (hi : Int)).fdiv (2 ^ (1 : Int).toNat) = ((lo + m / 2 : Nat) : Int) := by
          have e : ((lo : Int) + (hi : Int)) = ((lo + hi : Nat) : Int) := by push_cast; rfl
          rw [e, show ((2 : Int) ^ (1 : Int).toNat) = ((2 : Nat) : Int) from rfl, ← Int.ofNat_fdiv]
          congr 1; lia
        have hsh : (((lo + m / 2 : Nat) : Int) - (lo : Int)) * (n : Int) = ((n * (m / 2) : Nat) : Int) := by
          push_cast; rw [Int.mul_comm]; congr 1; lia
        have hnk : n * (m / 2) ≤ 40000 := Nat.le_trans (Nat.mul_le_mul hn2 (show m / 2 ≤ 500 by lia)) (by decide)
        have hval : ((DV n ((ds.drop (lo + m / 2)).take (m - m / 2)) : Nat) : Int) * 2 ^ (((n * (m / 2) : Nat) : Int)).toNat + ((DV n ((ds.drop lo).take (m / 2)) : Nat) : Int) = ((DV n ((ds.drop lo).take m) : Nat) : Int) := by
          rw [Int.toNat_natCast, DV_split n ds lo m (m / 2) (by lia) (by lia)]
          push_cast
          rw [Int.mul_comm, Int.add_comm]
        have hp1 := DV_part n ds (lo + m / 2) (m - m / 2)
        refine ex_cons (exs_if (c := false) (tst_cast (tst_eq (ev_add ev_v ev_int) ev_v) (by simp; lia)) (fun h => by cases h) (fun _ => ex_nil)) ?_
        refine ex_cons (exs_assign (P := TInt ((lo + m / 2 : Nat) : Int)) canLocal (ev_castI (ev_shr (ev_add ev_v ev_v) ev_int (by decide)) hmid)) ?_
        refine ex_cons (exs_assign (P := TInt ((n * (m / 2) : Nat) : Int)) canLocal (ev_castI (ev_mul (ev_sub ev_v ev_v) ev_v (IntMulOk.of_right (intBits_le_64 (by lia) (by lia)))) hsh)) ?_
        refine ex_ret (exs_return (ev_castI (ev_add (ev_shl (ev_innerD (lo := lo + m / 2) (hi := hi) (m := m - m / 2) N ((ih (m - m / 2) (by lia) (by lia) (by lia)).room (by lia)) rfl rfl rfl rfl (.inl rfl) ev_v ev_v (by lia) hhi) ev_v (by lia) (by lia) (by rw [Int.natAbs_natCast]; lia))
          (ev_innerD (lo := lo) (hi := lo + m / 2) (m := m / 2) N ((ih (m / 2) hk2 hk1 (by lia)).room (by lia)) rfl rfl rfl rfl (.inl rfl) ev_v ev_v rfl (by lia))) hval))
    refine body _ { s with heap := hh, toks := tk } _ _ _ _ _ Rd' I' ?_
    rintro fl h₂ t₂ ⟨v, rfl, hs, hp⟩
    exact c v h₂ t₂ (fun b o e => hs b o (bmax_some (fun z => z) e)) hp
end
end Mine

namespace Mine
open PySem PySem.Calls PySem.W
noncomputable def qD : Str := "_digits2int.<locals>.inner"
section
variable {w : World} {K : PM}

set_option maxHeartbeats 1000000 in
open Classical in
theorem eval_innerD {env : Env} {ρ : Ctx} {A : Around} {s : Shared} {B : PM} {X₀ W : XS} {q : Str} {f c' cD cI cN : Addr} {n : Nat} {r : Nat} {ds : List Nat} {doc pm ctv : Value} {e1 e2 : Expr} {p pos : Pos} {Q : Value → Shared → Prop} {E : Value → Shared → Prop} (kf : KF K GL) (R : Room A r) (hmr : ds.length ≤ r)
    (I : Inv env K B X₀ W ρ s.heap) (hk : env.scope.kind = .function) (hA : ρ.lookup (Str.ofString "digits") = some (.imm (TList (ds.map fun (d : Nat) => TInt d)))) (hI : ρ.lookup (Str.ofString "inner") = some (.imm (TVal fun v => v = .ref f))) (hN : ρ.lookup (Str.ofString "n") = some (.imm (TInt n)))
    (hcA : env.cells.lookup (Str.ofString "digits") = some cD) (hcI : env.cells.lookup (Str.ofString "inner") = some cI) (hcN : env.cells.lookup (Str.ofString "n") = some cN) (hkA : env.kindOf "digits" = some .cell) (hkI : env.kindOf "inner" = some .cell) (hkN : env.kindOf "n" = some .cell)
    (hf : s.heap.get? f = some (fnMade "inner" q (paramsOf innerD) (bodyOf innerD) (scopeOf innerD) [("n", cN), ("inner", cI), ("digits", cD)] doc pm c' ctv)) (hrec : Rec s.heap c' q) (hn : 1 ≤ n) (hn2 : n ≤ 40) (hm : 1 ≤ ds.length)
    (h1 : Ev PW w K env r ρ e1 (TInt (0 : Nat))) (h2 : Ev PW w K env r ρ e2 (TInt ds.length)) (hns2 : ds.length ≤ 1000) (hV : DV n ds < 2 ^ 40)
    (c : ∀ v h' tk, (∀ b o, s.heap.get? b = some o → h'.get? b = some o) → (∃ t, v = .int (DV n ds : Nat) t) → Q v { s with heap := h', toks := tk })
    (hst1 : starEach [e1, e2] env = (false, eval e1 env) :: starEach [e2] env := by rfl) (hst2 : starEach [e2] env = [(false, eval e2 env)] := by rfl) :
    wpAny (model PW w) A (eval (.Call (.Name "inner" p) [e1, e2] [] pos) env) Q E s := by
  show wpAny _ A (do callWith pos (← eval (.Name "inner" p) env) [] (backTo pos (starEach [e1, e2] env)) (backToKw pos (keywordEach [] env))) _ E s
  have evI : Ev PW w K env r ρ (.Name "inner" p) (TVal fun v => v = .ref f).w := ev_v (hk := hk) (hx := hI)
  refine wpAny_bind (evI A s _ _ E R I.subK I.sat ?_)
  rintro v h₀ t₀ k₀ rfl
  have I₀ := I.keeps k₀
  have hargs := evl_cons (pos := pos) h1 (evl_cons h2 evl_nil hst2) hst1
  refine Calls.callWith_function (s := { s with heap := h₀, toks := t₀ }) (o := _) (fd := _) (evalArgs_trees hargs.plain (hargs.run A _ _ _ _ R I₀.subK I₀.sat fun vs h' tk kp pv => ⟨⟨kp _ _ (k₀ _ _ hf), rfl⟩, ?_⟩))
  have I₁ := I₀.keeps kp
  have k01 : ∀ b o, s.heap.get? b = some o → h'.get? b = some o := fun b o e => kp b o (k₀ b o e)
  obtain ⟨vl, vh, rfl, p2, p3⟩ := vs2 pv
  obtain ⟨m1, cm1, F1, V1, O1⟩ := I₁.body
  obtain ⟨v, hv, hp⟩ := V1 _ _ hA
  obtain ⟨c0, hc0, hcm⟩ := cellOf_valOf hv (.inl hkA)
  rw [hcA] at hc0; cases hc0
  obtain ⟨vI, hvI, hpI⟩ := V1 _ _ hI
  obtain ⟨c1, hc1, hcmI⟩ := cellOf_valOf hvI (.inl hkI)
  rw [hcI] at hc1; cases hc1
  cases hpI
  obtain ⟨vN, hvN, tN, rfl⟩ := V1 _ _ hN
  obtain ⟨c2, hc2, hcmN⟩ := cellOf_valOf hvN (.inl hkN)
  rw [hcN] at hc2; cases hc2
  obtain ⟨⟨D, rfl, hXD⟩, D', us, nn, eD, hgD, hitD⟩ := hp
  cases eD
  obtain ⟨oc, vsr, tr, er, dr, vr⟩ := hrec
  let S : Addr → Prop := fun b => b = f ∨ b = c' ∨ b = cD ∨ b = cI ∨ b = cN ∨ b = D
  let K₁ : PM := fun b => if S b then h'.get? b else K b
  have K₁S : ∀ b, S b → K₁ b = h'.get? b := fun b hb => if_pos hb
  have hKK : ∀ a o, K a = some o → K₁ a = some o := fun a o e => by
    by_cases hb : S a
    · rw [K₁S a hb]; exact I₁.subK a o e
    · show (if S a then h'.get? a else K a) = _; rw [if_neg hb]; exact e
  have hSub : Sub K₁ h' := fun a o e => by
    by_cases hb : S a
    · rw [K₁S a hb] at e; exact e
    · have : K₁ a = K a := if_neg hb
      rw [this] at e; exact I₁.subK a o e
  have cellAt : ∀ cc vv, S cc → h'.IsCell cc vv → ∀ h, Sub K₁ h → h.IsCell cc vv := fun cc vv hs hc h hsub => by
    obtain ⟨o, e1, e2⟩ := hc
    exact ⟨o, hsub _ _ (by rw [K₁S cc hs]; exact e1), e2⟩
  have N : InD K₁ q f c' D cD cI cN n ds := by
    refine ⟨⟨doc, pm, ctv, by rw [K₁S f (.inl rfl)]; exact k01 _ _ hf⟩, fun h hs => ⟨oc, vsr, tr, hs _ _ (by rw [K₁S c' (.inr (.inl rfl))]; exact k01 _ _ er), dr, vr⟩, cellAt cD _ (.inr (.inr (.inl rfl))) (hcm ▸ F1.cell _ _ hcA), cellAt cI _ (.inr (.inr (.inr (.inl rfl)))) (hcmI ▸ F1.cell _ _ hcI),
      ⟨tN, cellAt cN _ (.inr (.inr (.inr (.inr (.inl rfl))))) (hcmN ▸ F1.cell _ _ hcN)⟩, fun z => ?_, fun z => ?_, fun z => ?_, fun X h hs hX => ?_⟩
    · have := I.apart _ _ _ hcA (z ▸ hcI); revert this; decide
    · have := I.apart _ _ _ hcA (z ▸ hcN); revert this; decide
    · have := I.apart _ _ _ hcI (z ▸ hcN); revert this; decide
    · refine ⟨⟨D, rfl, hX⟩, D, us, nn, rfl, hs _ _ (by rw [K₁S D (.inr (.inr (.inr (.inr (.inr rfl)))))]; exact hgD), ?_⟩
      refine All2.map_left.mpr ((All2.map_left.mp hitD).imp fun d u hu => ?_)
      exact hu
  refine inner_reads (kf.mono hKK) N hn hn2 hns2 hV ds.length hm hns2 A { s with heap := h', toks := tk } (fun b => X₀ b ∨ W b) 0 ds.length vl vh _ E (R.le hmr) hSub I₁.sat.1 hXD (by lia) (by lia) p2 p3 fun v h'' tk' k'' pv => ?_
  refine c v h'' tk' (fun b o e => k'' b o (k01 b o e)) ?_
  rw [List.drop_zero, List.take_length] at pv
  exact pv

set_option maxHeartbeats 4000000 in
theorem digits2int_does {ds : List Nat} {n : Nat} (kf : KF K GL) (F : FnAtC K 10 101 100) (TF : TabFacts K 100 96) (hn : 1 ≤ n) (hn2 : n ≤ 40) (hV : DV n ds < 2 ^ 40) (hm : ds.length ≤ 900) {A : Around} {s : Shared} {X : XS} {vd vn : Value} {Q : Value → Shared → Prop} {E : Value → Shared → Prop}
    (R : Room A (ds.length + 2)) (kK : Sub K s.heap) (hX : ∀ b, X b → (s.heap.get? b).isSome = true) (hXP : X 96) (pd : (TList (ds.map fun (d : Nat) => TInt d)).p X s.heap vd) (pn : ∃ t, vn = .int n t) (T : TabOk 96 (posOf innerD) qD s.heap)
    (c : ∀ v h' tk, Touch 96 s.heap h' → TabOk 96 (posOf innerD) qD h' → (∃ t, v = .int (DV n ds : Nat) t) → Q v { s with heap := h', toks := tk }) :
    wpAny (model PW w) A (call (.ref 101) [vd, vn]) Q E s := by
  obtain ⟨o, pm, doc, ho, hd, hc⟩ := F.at_
  refine fn_run (ps := [("digits", TList (ds.map fun (d : Nat) => TInt d)), ("n", TInt n)]) (T := fun b => b = 96) kf (by have := R.dep; lia) kK hX (fun b z => z ▸ TF.none_) ho hd hc rfl rfl rfl (fun L => canP ⟨canCell, canCell, trivial⟩) ⟨pd, pn, trivial⟩ fun hh tk E' keep I => ?_
  have Rd : Room (A.deeper (callEnvC (fdAt 10 pm (.ref 100) doc) s.heap.objs.size 101)) (ds.length + 1) := R.deeper
  let env := callEnvC (fdAt 10 pm (.ref 100) doc) s.heap.objs.size 101
  have T₀ : TabOk 96 (posOf innerD) qD hh := T.fields (FieldsKeep.of_keep keep)
  obtain ⟨W₁, _, hWf, I₁⟩ := I.shrink
  have hcl : closureFor (scopeOf innerD) env = (pure [(Str.ofString "n", s.heap.objs.size + 2), (Str.ofString "inner", s.heap.objs.size + 3), (Str.ofString "digits", s.heap.objs.size + 1)] : Sem (List (Str × Addr))) := by rfl
  refine wpAny_execs_cons (def_run (s := { s with heap := hh, toks := tk }) kf rfl I₁ canCell ⟨hXP, bmax_off rfl⟩ T₀ TF.hd TF.ba hWf rfl hcl TF.ne rfl rfl rfl fun f c' dc pmv ctv h₂ t₂ I₂ T₂ hf hfn hrec k₂ => ?_)
  have keep2 : ∀ b o, b ≠ 96 → s.heap.get? b = some o → h₂.get? b = some o := fun b o hb e => I₂.sub b o (bmax_some hb e)
  have tst := tst_list (K := K) (w := w) (prog := PW) (r := ds.length + 1) (env := env) (ρ := (Str.ofString "inner", .imm (TVal fun v => v = .ref f)) :: [("n", .imm (TInt n)), ("digits", .imm (TList (ds.map fun (d : Nat) => TInt d)))]) (lOf (ev_v (x := "digits") (p := default) (P := TList (ds.map fun (d : Nat) => TInt d)))) (by rw [List.length_map]; lia)
  refine wpAny_execs_cons (wpAny_Return_some (wpAny_IfExp ((tst_list (lOf (ev_v (P := TList (ds.map fun (d : Nat) => TInt d)))) (by rw [List.length_map]; lia)) _ { s with heap := h₂, toks := t₂ } _ _ _ Rd I₂.subK I₂.sat fun h₃ t₃ k₃ => ?_)))
  have I₃ := I₂.keeps k₃
  by_cases hds : ds = []
  · subst hds
    simp only [List.map_nil, List.isEmpty_nil, Bool.not_true, Bool.false_eq_true, if_false]
    refine (ev_int (K := K) (ρ := []) (r := 0) (env := env) (prog := PW) (w := w) (i := 0)) _ _ _ _ _ (Rd.le (by lia)) I₃.subK ⟨I₃.sat.1, I₃.sat.2.imp fun m h => h.imp fun cm h => ⟨h.1, fun x e hx => by cases hx⟩⟩ fun v h₄ t₄ k₄ pv => ?_
    exact c v h₄ t₄ (fun b o hb e => k₄ b o (k₃ b o (keep2 b o hb e))) (T₂.fields (FieldsKeep.of_keep fun b o e => k₄ b o (k₃ b o e))) pv
  · have hm1 : 1 ≤ ds.length := by
      rcases Nat.eq_zero_or_pos ds.length with z | z
      · exact absurd (List.length_eq_zero_iff.mp z) hds
      · exact z
    have e1 : (!(ds.map fun (d : Nat) => TInt d).isEmpty) = true := by
      cases ds with
      | nil => exact absurd rfl hds
      | cons => rfl
    rw [e1]
    simp only [if_true]
    obtain ⟨ocr, vsr, tr, er, dr, vr⟩ := hrec
    refine eval_innerD (s := { s with heap := h₃, toks := t₃ }) (ds := ds) (n := n) kf Rd (by lia) I₃ rfl rfl rfl rfl rfl rfl rfl rfl rfl rfl (k₃ _ _ hf) ⟨ocr, vsr, tr, k₃ _ _ er, dr, vr⟩ hn hn2 hm1 ev_int
      (ev_castI (ev_lenL (Ps := ds.map fun (d : Nat) => TInt d) kf rfl rfl rfl (lOf (ev_v (P := TList (ds.map fun (d : Nat) => TInt d)))) (by rw [List.length_map]; lia)) (by rw [List.length_map])) (by lia) hV fun v h₄ t₄ k₄ pv => ?_
    exact c v h₄ t₄ (fun b o hb e => k₄ b o (k₃ b o (keep2 b o hb e))) (T₂.fields (FieldsKeep.of_keep fun b o e => k₄ b o (k₃ b o e))) pv
end
end Mine

namespace Mine
open PySem PySem.Calls PySem.W

/-- the code tables of the two inner defs -/
noncomputable def Tabs (h : Heap) : Prop := TabOk 89 (posOf innerI) qI h ∧ TabOk 96 (posOf innerD) qD h
noncomputable def TX (X : XS) (B : PM) : Prop := (X 89 ∧ B 89 = none) ∧ (X 96 ∧ B 96 = none)
theorem Tabs.fields {h h' : Heap} (x : Tabs h) (k : FieldsKeep h h') : Tabs h' := ⟨x.1.fields k, x.2.fields k⟩
theorem Tabs.keeps {h h' : Heap} (x : Tabs h) (k : ∀ b o, h.get? b = some o → h'.get? b = some o) : Tabs h' := x.fields (FieldsKeep.of_keep k)
theorem Tabs.keepS {h h' : Heap} (x : Tabs h) (h89 : ∀ o, h.get? 89 = some o → h'.get? 89 = some o) (h96 : ∀ o, h.get? 96 = some o → h'.get? 96 = some o) (k : KeepS h h') : Tabs h' := ⟨x.1.keep h89 k, x.2.keep h96 k⟩
section
variable (w : World) (K : PM)
noncomputable def FnT (a : Addr) (r : Nat) (Ps : List WV) (P : WV) : Prop :=
  ∀ (A : Around) (s : Shared) (X : XS) (vs : List Value) (Q : Value → Shared → Prop) (E : Value → Shared → Prop), Room A r → Sub K s.heap → (∀ b, X b → (s.heap.get? b).isSome = true) → X 89 → X 96 → Tabs s.heap →
    All2 (fun (P : WV) v => P.p X s.heap v) Ps vs →
    (∀ v h' tk, (∀ b o, b ≠ 89 → b ≠ 96 → s.heap.get? b = some o → h'.get? b = some o) → Tabs h' → P.p X h' v → Q v { s with heap := h', toks := tk }) → wpAny (model PW w) A (call (.ref a) vs) Q E s
noncomputable def EvT (env : Env) (r : Nat) (ρ : Ctx) (e : Expr) (P : WV) : Prop :=
  ∀ (A : Around) (s : Shared) (B : PM) (X₀ W : XS) (Q : Value → Shared → Prop) (E : Value → Shared → Prop), Room A r → Inv env K B X₀ W ρ s.heap → TX X₀ B → Tabs s.heap →
    (∀ v h' tk, Inv env K B X₀ W ρ h' → Tabs h' → P.p (fun b => X₀ b ∨ W b) h' v → Q v { s with heap := h', toks := tk }) → wpAny (model PW w) A (eval e env) Q E s
noncomputable def ExT (φ : Around → Prop) (env : Env) (r : Nat) (ρ : Ctx) (ss : List Stmt) (O : Out) : Prop :=
  ∀ (A : Around) (s : Shared) (B : PM) (X₀ W : XS) (Q : Flow → Shared → Prop) (E : Value → Shared → Prop), Room A r → φ A → Inv env K B X₀ W ρ s.heap → TX X₀ B → Tabs s.heap →
    (∀ f h' tk, Ends env K B X₀ O f h' → Tabs h' → Q f { s with heap := h', toks := tk }) → wpAny (model PW w) A (execs ss env) Q E s
noncomputable def ExST (φ : Around → Prop) (env : Env) (r : Nat) (ρ : Ctx) (st : Stmt) (O : Out) : Prop :=
  ∀ (A : Around) (s : Shared) (B : PM) (X₀ W : XS) (Q : Flow → Shared → Prop) (E : Value → Shared → Prop), Room A r → φ A → Inv env K B X₀ W ρ s.heap → TX X₀ B → Tabs s.heap →
    (∀ f h' tk, Ends env K B X₀ O f h' → Tabs h' → Q f { s with heap := h', toks := tk }) → wpAny (model PW w) A (exec st env) Q E s
end

section
variable {w : World} {K : PM} {env : Env} {r : Nat} {ρ : Ctx} {φ : Around → Prop}
/-- all but the tables is held -/
noncomputable def Bt (W : XS) (h : Heap) : PM := Bz [89, 96] W h
theorem bt_tab {W : XS} {h : Heap} : Bt W h 89 = none ∧ Bt W h 96 = none := ⟨by unfold Bt Bz; exact bmax_off (.inr (by simp)), by unfold Bt Bz; exact bmax_off (.inr (by simp))⟩
theorem TX.zs {X₀ : XS} {B : PM} (x : TX X₀ B) : ∀ L ∈ [89, 96], B L = none := by
  intro L hL
  simp only [List.mem_cons, List.not_mem_nil, or_false] at hL
  rcases hL with rfl | rfl
  · exact x.1.2
  · exact x.2.2

theorem evt_of {e : Expr} {P : WV} (h : Ev PW w K env r ρ e P) : EvT w K env r ρ e P :=
  fun A s B X₀ W Q E R I hT T c => h A s _ Q E R I.subK I.sat fun v h' tk k p => c v h' tk (I.keeps k) (T.keeps k) p
theorem evt_weaken {e : Expr} {P P' : WV} (h : EvT w K env r ρ e P) (hp : ∀ X h v, P.p X h v → P'.p X h v) : EvT w K env r ρ e P' :=
  fun A s B X₀ W Q E R I hT T c => h A s B X₀ W Q E R I hT T fun v h' tk I' T' p => c v h' tk I' T' (hp _ _ _ p)
theorem exst_of {st : Stmt} {O : Out} (h : ExS PW w K env r ρ st O) : ExST w K φ env r ρ st O :=
  fun A s B X₀ W Q E R _ I hT T c => exs_fields h R I fun f h' tk En k => c f h' tk En (T.fields k)
theorem ext_of {ss : List Stmt} {O : Out} (h : Ex PW w K env r ρ ss O) : ExT w K φ env r ρ ss O :=
  fun A s B X₀ W Q E R _ I hT T c => ex_fields h R I fun f h' tk En k => c f h' tk En (T.fields k)
theorem exst_ofG {st : Stmt} {O : Out} (h : ExSG PW w K [] (fun A _ => φ A) env r ρ st O) : ExST w K φ env r ρ st O := by
  intro A s B X₀ W Q E R hφ I hT T c
  obtain ⟨W', hW, hWf, I'⟩ := I.shrink
  refine h A s (Bmax W' s.heap) X₀ W' Q E R hφ I'.max (fun L hL => by cases hL) fun f h' tk En _ => c f h' tk (En.fewer I.kb fun a o e => I'.inMax e) (T.fields fun b o vs e d => ?_)
  have hb : ¬ W' b := fun z => hWf b o vs z e d
  cases O with
  | next ρ' => obtain ⟨_, W'', I''⟩ := En; exact I''.sub b o (bmax_some hb e)
  | ret P => obtain ⟨v, _, hs, _⟩ := En; exact hs b o (bmax_some hb e)
theorem ext_nil : ExT w K φ env r ρ [] (.next ρ) := ext_of ex_nil
theorem ext_cons {st : Stmt} {ss : List Stmt} {ρ' : Ctx} {O : Out} (h : ExST w K φ env r ρ st (.next ρ')) (h2 : ExT w K φ env r ρ' ss O) : ExT w K φ env r ρ (st :: ss) O := by
  intro A s B X₀ W Q E R hφ I hT T c
  refine wpAny_execs_cons (h A s B X₀ W _ E R hφ I hT T ?_)
  rintro f h' tk ⟨rfl, W', I'⟩ T'
  exact h2 A _ B X₀ W' Q E R hφ I' hT T' c
theorem ext_ret {st : Stmt} {ss : List Stmt} {P : HV} (h : ExST w K φ env r ρ st (.ret P)) : ExT w K φ env r ρ (st :: ss) (.ret P) := by
  intro A s B X₀ W Q E R hφ I hT T c
  refine wpAny_execs_cons (h A s B X₀ W _ E R hφ I hT T ?_)
  rintro f h' tk ⟨v, rfl, q⟩ T'
  exact c _ h' tk ⟨v, rfl, q⟩ T'
theorem ext_less {ss : List Stmt} {ρ' : Ctx} {O : Out} (h : ExT w K φ env r ρ' ss O) (hl : ∀ x e, ρ'.lookup x = some e → ρ.lookup x = some e) : ExT w K φ env r ρ ss O :=
  fun A s B X₀ W Q E R hφ I hT T c => h A s B X₀ W Q E R hφ (I.less hl) hT T c
theorem ext_freeze {x : Str} {e : Ent} {ss : List Stmt} {O : Out} (hx : ρ.lookup x = some e) (h : ExT w K φ env r ((x, .imm e.still) :: ρ) ss O) (ho : e.isOwn = true := by rfl) : ExT w K φ env r ρ ss O :=
  fun A s B X₀ W Q E R hφ I hT T c => let ⟨W', I'⟩ := I.freeze hx ho; h A s B X₀ W' Q E R hφ I' hT T c
theorem exst_if {t : Expr} {a b : List Stmt} {pos : Pos} {c : Bool} {O : Out} (ht : Tst PW w K env r ρ t c) (ha : c = true → ExT w K φ env r ρ a O) (hb : c = false → ExT w K φ env r ρ b O) : ExST w K φ env r ρ (.If t a b pos) O := by
  intro A s B X₀ W Q E R hφ I hT T cc
  refine wpAny_If (ht A s _ _ E R I.subK I.sat fun h' tk k => ?_)
  cases c with
  | true => exact ha rfl A _ B X₀ W Q E R hφ (I.keeps k) hT (T.keeps k) cc
  | false => exact hb rfl A _ B X₀ W Q E R hφ (I.keeps k) hT (T.keeps k) cc
theorem exst_return {pos : Pos} {e : Expr} {P : HV} (he : EvT w K env r ρ e P) : ExST w K φ env r ρ (.Return (some e) pos) (.ret P) := by
  intro A s B X₀ W Q E R hφ I hT T c
  exact wpAny_Return_some (he A s B X₀ W _ E R I hT T fun v h' tk I' T' pv => c _ h' tk ⟨v, rfl, I'.sub, P.refr (fun b q => .inl (.inl q)) pv⟩ T')
theorem exst_assign {x : Str} {px pos : Pos} {e : Expr} {P : HV} (C : CanStore env x) (he : EvT w K env r ρ e P) (hs : swapsWith e (some (.Name x px)) pos.line env = pure false := by rfl) :
    ExST w K φ env r ρ (.Assign [.Name x px] e pos) (.next ((x, .imm P) :: ρ)) := by
  intro A s B X₀ W Q E R hφ I hT T c
  obtain ⟨W', hW, hWf, I₀⟩ := I.shrink
  refine wpAny_Assign_Name (he A s B X₀ W' _ E R I₀ hT T fun v h' tk I' T' pv => ?_) hs
  obtain ⟨W'', hW2, hWf2, I''⟩ := I'.shrink
  exact bind_imm I'' C (P.refr (fun b q => .inl (q.imp id (hW2 b))) pv) fun h'' tk' I3 k'' => c .next h'' tk' ⟨rfl, W'', I3⟩ (T'.fields fun b o vs e d => k'' b o (fun z => hWf2 b o vs z e d) e)
theorem exst_unpack (xs : List (Str × Pos)) {k : Nat} {tpos pos : Pos} {e : Expr} {Ps : List HV} (hC : ∀ p ∈ xs, CanStore env p.1) (hlen : xs.length = Ps.length) (he : EvT w K env r ρ e (LSeq "tuple" Ps))
    (hs : swapsWithSole [.Tuple (nameTargets xs) k tpos] e pos.line env = pure false := by rfl) (hw : swappedStores [.Tuple (nameTargets xs) k tpos] e env = pure none := by rfl) :
    ExST w K φ env r ρ (.Assign [.Tuple (nameTargets xs) k tpos] e pos) (.next (bindAll (xs.map (·.1)) Ps ρ)) := by
  intro A s B X₀ W Q E R hφ I hT T c
  refine PyProof.Rows.Assign_Tuple (he A s B X₀ W _ E R I hT T ?_) hs hw
  rintro v h₁ t₁ I₁ T₁ ⟨a, vs, n, rfl, ho, hi⟩
  have hsz : vs.size = Ps.length := by rw [hi.length]; simp
  refine wpAny_assign_Tuple (s := { s with heap := h₁, toks := t₁ }) (items := vs) R.hh ⟨_, ho, rfl, n, rfl⟩ (by rw [assignEach_len, hlen, hsz]) (assignEach_star xs) fun h₂ hx₂ => ?_
  replace hx₂ : Heap.ExtBut h₁.objs.size h₁ h₂ := hx₂
  have up₂ : ∀ b o, h₁.get? b = some o → h₂.get? b = some o := fun b o x => hx₂ b o (Nat.ne_of_lt (Heap.lt_size x)) x
  obtain ⟨W', hW, hWf, I₂⟩ := (I₁.keeps up₂).shrink
  have T₂ := T₁.keeps up₂
  refine assign_all xs Ps vs.toList ρ { s with heap := h₂, toks := t₁ } _ hlen hC I₂.max (hi.imp fun P u hu => P.refr (fun b q => .inl (q.imp id (hW b))) (P.frame (fun b o _ q => up₂ b o q) hu)) fun h' tk I' => ?_
  exact c .next h' tk ⟨rfl, W', I'.fewer I.kb fun a o e => I₂.inMax e⟩ (T₂.fields fun b o vs e d => I'.sub b o (bmax_some (fun z => hWf b o vs z e d) e))

/-- a call of a module's def that touches the tables -/
theorem evt_fn {f : Str} {p pos : Pos} {args : List Expr} {a : Addr} {o : Obj} {fd : FuncData} {Ps : List WV} {P : WV} (kf : KF K GL) (hgl : env.globals = mainGlobals) (hk : env.scope.kind = .function)
    (hg : GL.lookup f = some (.ref a)) (ho : K a = some o) (hd : o.data = .func fd)
    (hargs : EvL PW w K env r ρ pos args Ps) (h : FnT w K a r Ps P)
    (hx : env.kindOf f = some .globalImplicit := by rfl) (hdb : (f == ("__debug__" : Str)) = false := by decide) :
    EvT w K env r ρ (.Call (.Name f p) args [] pos) P := by
  intro A s B X₀ W Q E R I hT T c
  show wpAny _ A (do callWith pos (← eval (.Name f p) env) [] (backTo pos (starEach args env)) (backToKw pos (keywordEach [] env))) Q E s
  obtain ⟨mg, hmg, hval, _⟩ := kf.glob _ I.subK
  refine wpAny_bind (Calls.Name_function_global hk hx (Calls.loadGlobal_global (hgl ▸ hmg) (hval f _ hg) ?_) hdb)
  refine Calls.callWith_function (o := o) (fd := fd) (evalArgs_trees hargs.plain (hargs.run A s _ _ _ R I.subK I.sat fun vs h' tk kp pv => ⟨⟨(I.subK.keeps kp) _ _ ho, hd⟩, ?_⟩))
  have I' := I.keeps kp
  refine h A _ (fun b => X₀ b ∨ W b) vs Q E R I'.subK I'.sat.1 (.inl hT.1.1) (.inl hT.2.1) (T.keeps kp) pv fun v h'' tk' kp' T' p => ?_
  obtain ⟨m, cm, F, V, O⟩ := I'.body
  have hnc : ∀ n c, env.cells.lookup n = some c → ¬ (c = 89 ∨ c = 96) := by
    intro n c hc z
    obtain ⟨oc, e, d⟩ := F.cell n c hc
    have T1 := T.keeps kp
    rcases z with rfl | rfl
    · obtain ⟨ps, e2, _⟩ := T1.1; rw [e] at e2; cases e2; cases d
    · obtain ⟨ps, e2, _⟩ := T1.2; rw [e] at e2; cases e2; cases d
  refine c v h'' tk' (I'.move (V := fun b => b = 89 ∨ b = 96) (fun b o hb e => kp' b o (fun z => hb (.inl z)) (fun z => hb (.inr z)) e) ?_ hnc ?_ I.kb (fun a o e => kp' a o (fun z => ?_) (fun z => ?_) (I'.sub a o e)) I.off) T' p
  · rintro b (rfl | rfl)
    · exact hT.1.1
    · exact hT.2.1
  · rintro b (rfl | rfl)
    · obtain ⟨ps, e, _⟩ := T'.1; exact liveAt e
    · obtain ⟨ps, e, _⟩ := T'.2; exact liveAt e
  · rw [z, hT.1.2] at e; cases e
  · rw [z, hT.2.2] at e; cases e

/-- the contract of a def from the walk of its body -/
theorem fnt_of_body {a : Addr} {o : Obj} {fd : FuncData} {body : List Stmt} {ps : List (Str × HV)} {P : HV} (kf : KF K GL) (h89 : K 89 = none) (h96 : K 96 = none) (ho : K a = some o) (hdata : o.data = .func fd) (hcd : ∀ h, Sub K h → h.CodeRec fd.code fd.qualname)
    (hbody : fd.body = .stmts body) (hclo : fd.closure = [])
    (hbind : ∀ vs : List Value, vs.length = ps.length → bindArgs fd ⟨vs, []⟩ = pure ((ps.map (·.1)).zip vs))
    (hst : ∀ L p, p ∈ ps → CanStore (callEnvC fd L a) p.1)
    (h : ∀ L, ExT w K (fun _ => True) (callEnvC fd L a) r (ps.map fun p => (p.1, Ent.imm p.2)).reverse body (.ret P))
    (hco : fd.scope.isCoroutine = false := by rfl) (hgen : fd.scope.isGenerator = false := by rfl) (hk : fd.scope.kind = .function := by rfl) :
    FnT w K a (r + 1) (ps.map fun p => p.2.w) P := by
  intro A s X vs Q E R kK hX x89 x96 T hv c
  have hlen : vs.length = ps.length := by have := hv.length; simpa using this.symm
  have hv' : All2 (fun (P : HV) v => P.p X s.heap v) (ps.map (·.2)) vs := by
    have : ps.map (fun p => p.2.w) = (ps.map (·.2)).map HV.w := by simp [List.map_map, Function.comp_def]
    rw [this] at hv
    exact All2.map_left.mp hv
  refine fn_run (ps := ps) (T := fun b => b = 89 ∨ b = 96) kf (by have := R.dep; lia) kK hX (by rintro b (rfl | rfl) <;> assumption) ho hdata hcd hbody hclo (hbind vs hlen) hst hv' (fun hh tk E' keep I => ?_) hco hgen hk
  refine h s.heap.objs.size (A.deeper (callEnvC fd s.heap.objs.size a)) { s with heap := hh, toks := tk } _ X _ _ _ R.deeper trivial I ⟨⟨x89, bmax_off (.inl rfl)⟩, ⟨x96, bmax_off (.inr rfl)⟩⟩ (T.keeps keep) ?_
  rintro f h' tk' ⟨v, rfl, hs, hp⟩ T'
  exact c v h' tk' (fun b o h1 h2 e => hs b o (bmax_some (by rintro (z | z) <;> contradiction) e)) T' hp
end
end Mine

namespace Mine
open PySem PySem.Calls PySem.W
section
variable {w : World} {K : PM} {env : Env} {r : Nat} {φ : Around → Prop}
theorem bt_of {W : XS} {h : Heap} {b : Addr} {o : Obj} (e : Bt W h b = some o) : ¬ (W b ∨ b ∈ [89, 96]) ∧ h.get? b = some o := by unfold Bt Bz at e; exact bmax_of e
theorem bt_some {W : XS} {h : Heap} {b : Addr} {o : Obj} (q : ¬ (W b ∨ b ∈ [89, 96])) (e : h.get? b = some o) : Bt W h b = some o := by unfold Bt Bz; exact bmax_some q e
theorem bt_off {W : XS} {h : Heap} {b : Addr} (q : W b) : Bt W h b = none := by unfold Bt Bz; exact bmax_off (.inl q)
theorem bt_none {W : XS} {h : Heap} {b : Addr} (e : Bt W h b = none) : (W b ∨ b ∈ [89, 96]) ∨ h.get? b = none := by unfold Bt Bz at e; exact bmax_none e

set_option maxHeartbeats 2000000 in
theorem exst_for {x : Str} {px pos : Pos} {iter : Expr} {body : List Stmt} {a b c : Int} {ns : List Int} (ρs : Nat → Ctx) (C : CanStore env x) (he : Ev PW w K env r (ρs 0) iter (TRange a b c)) (hsm : Builtin.Range.small a b c = true) (hn : Builtin.Range.rangeSize a b c = ns.length) (hi : ∀ (i : Nat) k, ns[i]? = some k → k = a + (i : Int) * c)
    (hbody : ∀ (i : Nat) k, ns[i]? = some k → ExT w K φ env r ((x, .imm (TInt k)) :: ρs i) body (.next (ρs (i + 1))))
    (hs : ∀ x, foldedSetIterable iter env x = pure x := by intro _; rfl) : ExST w K φ env r (ρs 0) (.For (.Name x px) iter body [] pos) (.next (ρs ns.length)) := by
  intro A s B X₀ W Q E R hφ I hT T cc
  obtain ⟨W₀, hW, hWf, I₀⟩ := I.shrink
  refine wpAny_For (he A s _ _ E R I₀.subK I₀.sat ?_) hs
  rintro v h₁ t₁ k₁ ⟨rr, t, u, v', rfl, hr⟩
  refine wpAny_pyIter_range hr hsm ?_
  let o : Obj := { cls := .type "range_iterator", dict := none, data := .fields #[rawInt a, rawInt (Builtin.Range.rangeSize a b c), rawInt c], slots := #[] }
  let It := h₁.objs.size
  let hh := h₁.push o
  have k₀ : ∀ b o, s.heap.get? b = some o → hh.get? b = some o := fun b o e => Heap.get?_push_of_some _ (k₁ b o e)
  have newI : s.heap.get? It = none := freshNone' k₁
  have Wk := Walks.range (prog := PW) (w := w) (A := A) R.hh It a c ns.length
  have hw₀ : ¬ W₀ It := fun q => by have := I₀.live _ q; rw [newI] at this; cases this
  have n89 : It ≠ 89 := fun z => by have := (I₀.dom _ hT.1.1).1; rw [← z, newI] at this; cases this
  have n96 : It ≠ 96 := fun z => by have := (I₀.dom _ hT.2.1).1; rw [← z, newI] at this; cases this
  have st₀ : IsRangeIter hh It (a + ((0 : Nat) : Int) * c) ((ns.length : Int) - ((0 : Nat) : Int)) c := by
    rw [← hn]
    show IsRangeIter _ _ _ _ _
    simpa using Heap.get?_push_size h₁ (o := o) rfl
  have cellsOff : ∀ n c', env.cells.lookup n = some c' → c' ≠ It := by
    rintro n c' hc rfl
    obtain ⟨m, cm, F, _⟩ := I₀.body
    obtain ⟨o, q, _⟩ := F.cell n _ hc
    rw [newI] at q; cases q
  have zsub : ∀ a o, B a = some o → a ∉ [89, 96] := fun a o e q => by rw [hT.zs a q] at e; cases e
  refine codeAny_forLoop_any
    (fun k s' => ∃ H tk W i, s' = { s with heap := H, toks := tk } ∧ i ≤ ns.length ∧ k = ns.length + 1 - i ∧ IsRangeIter H It (a + (i : Nat) * c) ((ns.length : Int) - (i : Nat)) c ∧ Inv env K (Bt W H) (fun b => X₀ b ∨ b = It) W (ρs i) H ∧ (∀ b o vs, W b → H.get? b = some o → o.data ≠ .fields vs) ∧
      (∀ b, W b → W₀ b ∨ hh.get? b = none) ∧ (∀ b o, hh.get? b = some o → ¬ W₀ b → b ≠ It → b ∉ [89, 96] → H.get? b = some o) ∧ Tabs H) ?_ (ns.length + 1)
    ⟨hh, _, W₀, 0, rfl, Nat.zero_le _, rfl, st₀, ?_, ?_, fun _ q => .inl q, fun b o e _ _ _ => e, T.keeps k₀⟩
  · rintro k s' ⟨H, tk, W, i, rfl, hile, rfl, hSt, J, hWfH, hd, hc, TH⟩
    have hdI : ¬ W It := (J.dom It (.inr rfl)).2
    rcases Nat.lt_or_ge i ns.length with hlt | hge
    · refine Wk.item i _ _ _ hlt hSt ?_
      rintro v h' tk' ⟨tt, rfl⟩ hSt' k'
      have k'' : ∀ b o, b ≠ It → H.get? b = some o → h'.get? b = some o := fun b o hb e => k' b o (by simpa using hb) e
      obtain ⟨ki, hki⟩ : ∃ q, ns[i]? = some q := ⟨_, List.getElem?_eq_getElem hlt⟩
      have hkv := hi i ki hki
      have KOff : K It = none := by
        cases e : K It with
        | none => rfl
        | some o => have := I₀.subK _ o e; rw [newI] at this; cases this
      have J' : Inv env K (Bt W h') (fun b => X₀ b ∨ b = It) W (ρs i) h' := J.move (V := fun b => b = It) (fun b o hb e => k'' b o hb e) (fun b q => .inr q) (fun n c hc q => cellsOff n c hc q) (fun b q => by rw [show b = It from q]; exact liveAt hSt') (fun a o e => by
        obtain ⟨q1, q2⟩ := bt_of (J.kb a o e)
        exact bt_some q1 (k'' a o (fun q => by rw [q, KOff] at e; cases e) q2)) (fun a o e => (bt_of e).2) (fun b q => bt_off q)
      have TH' : Tabs h' := TH.keepS (fun o e => k'' _ o (fun z => n89 z.symm) e) (fun o e => k'' _ o (fun z => n96 z.symm) e) fun b o vs q t e d hv => k'' b o (fun z => by
        rw [z, hSt] at e; cases e; cases d; simp [rawInt] at hv) e
      refine wpAny_of_eq (a := ()) (by rfl) ?_
      refine wpAny_assign_Name (bind_imm (s := { s with heap := h', toks := tk' }) (P := TInt ki) J' C ⟨tt, by rw [hkv]⟩ fun h3 tk3 I3 k3 => ?_)
      have hWf' : ∀ b o vs, W b → h'.get? b = some o → o.data ≠ .fields vs := fun b o vs q e => by
        have hb : b ≠ It := fun z => hdI (z ▸ q)
        obtain ⟨o2, e2⟩ := Option.isSome_iff_exists.mp (J.live b q)
        have := k'' b o2 hb e2
        rw [e] at this; cases this
        exact hWfH b _ vs q e2
      have TH3 : Tabs h3 := TH'.fields fun b o vs e d => k3 b o (fun z => hWf' b o vs z e d) e
      have tx : TX (fun b => X₀ b ∨ b = It) (Bt W h') := ⟨⟨.inl hT.1.1, bt_tab.1⟩, ⟨.inl hT.2.1, bt_tab.2⟩⟩
      have hSt3 : IsRangeIter h3 It (a + ((i + 1 : Nat) : Int) * c) ((ns.length : Int) - ((i + 1 : Nat) : Int)) c := k3 _ _ hdI hSt'
      refine hbody i ki hki A { s with heap := h3, toks := tk3 } (Bt W h') _ W _ _ R hφ I3 tx TH3 ?_
      rintro f h4 tk4 ⟨rfl, W4, I4⟩ T4
      obtain ⟨W5, hW5, hWf5, I5⟩ := I4.shrink
      have up4 : ∀ b o, h'.get? b = some o → ¬ W b → b ∉ [89, 96] → h4.get? b = some o := fun b o e q1 q2 => I4.sub b o (bt_some (by rintro (z | z) <;> contradiction) e)
      refine ⟨ns.length + 1 - (i + 1), by lia, h4, tk4, W5, i + 1, rfl, hlt, rfl, up4 _ _ hSt' hdI (by simp [n89, n96]), I5.bz (fun L hL => ?_), hWf5, fun b q => ?_, fun b o e q1 q2 q3 => up4 b o (k'' b o q2 (hc b o e q1 q2 q3)) (fun q => (hd b q).elim q1 fun z => by rw [z] at e; cases e) q3, T4⟩
      · simp only [List.mem_cons, List.not_mem_nil, or_false] at hL
        rcases hL with rfl | rfl
        · exact bt_tab.1
        · exact bt_tab.2
      · rcases bt_none (I5.off b q) with (z | z) | z
        · exact hd b z
        · simp only [List.mem_cons, List.not_mem_nil, or_false] at z
          rcases z with rfl | rfl
          · exact absurd q (I5.dom _ (.inl hT.1.1)).2
          · exact absurd q (I5.dom _ (.inl hT.2.1)).2
        · cases e : hh.get? b with
          | none => exact .inr rfl
          | some o =>
            by_cases q1 : W₀ b
            · exact .inl q1
            · by_cases q2 : b = It
              · rw [q2] at z; rw [hSt'] at z; cases z
              · by_cases q3 : b ∈ [89, 96]
                · simp only [List.mem_cons, List.not_mem_nil, or_false] at q3
                  rcases q3 with rfl | rfl
                  · exact absurd q (I5.dom _ (.inl hT.1.1)).2
                  · exact absurd q (I5.dom _ (.inl hT.2.1)).2
                · have := k'' b o q2 (hc b o e q1 q2 q3); rw [z] at this; cases this
    · obtain rfl : i = ns.length := Nat.le_antisymm hile hge
      refine Wk.done _ _ _ hSt fun h' tk' k' => wpAny_execs_nil ?_
      have k'' : ∀ b o, b ≠ It → H.get? b = some o → h'.get? b = some o := fun b o hb e => k' b o (by simpa using hb) e
      have nB : ∀ a o, B a = some o → a ≠ It := fun a o e z => by have := I₀.sub a o e; rw [z, newI] at this; cases this
      have nW₀ : ∀ a o, B a = some o → ¬ W₀ a := fun a o e q => by rw [I₀.off a q] at e; cases e
      refine cc .next h' tk' ⟨rfl, W, ?_⟩ ?_
      · have J2 : Inv env K (Bt W H) (fun b => X₀ b ∨ b ∈ [It]) W (ρs ns.length) H := by
          have e : (fun b => X₀ b ∨ b ∈ [It]) = (fun b => X₀ b ∨ b = It) := by funext b; simp
          rw [e]; exact J
        refine J2.gone (wr := [It]) (fun b o hb e => k'' b o (by simpa using hb) e) I₀.kb (fun a o e => k'' a o (nB a o e) (hc a o (k₀ a o (I₀.sub a o e)) (nW₀ a o e) (nB a o e) (zsub a o e))) (fun b q hb => ?_) (fun b q => ?_) (fun n c hc => by simpa using cellsOff n c hc)
        · simp only [List.mem_singleton] at hb
          have := (I₀.dom b q).1; rw [hb, newI] at this; cases this
        · cases e : B b with
          | none => rfl
          | some o =>
            rcases hd b q with q | q
            · rw [I₀.off b q] at e; cases e
            · have := k₀ b o (I₀.sub b o e); rw [q] at this; cases this
      · exact TH.keepS (fun o e => k'' _ o (fun z => n89 z.symm) e) (fun o e => k'' _ o (fun z => n96 z.symm) e) fun b o vs q t e d hv => k'' b o (fun z => by
          rw [z, hSt] at e; cases e; cases d; simp [rawInt] at hv) e
  · have I₁ := (I₀.keeps k₀).bz (Z := [89, 96]) hT.zs
    obtain ⟨m, cm, F, V, O⟩ := I₀.body
    refine ⟨I₁.kb, I₁.sub, fun b q => ?_, I₁.off, I₁.live, I₁.wl, I₁.wc, I₁.apart, I₁.coff, m, cm, F.keeps k₀, (V.refr (X' := fun b => (X₀ b ∨ b = It) ∨ W₀ b) fun b q => ?_).keeps k₀, O⟩
    · rcases q with q | q
      · exact I₁.dom b q
      · rw [q]; exact ⟨liveAt (Heap.get?_push_size h₁ (o := o) rfl), hw₀⟩
    · rcases q with (q | q) | q
      · exact .inl (.inl q)
      · exact .inr (q ▸ newI)
      · exact .inl (.inr q)
  · intro b o vs q e
    obtain ⟨o2, e2⟩ := Option.isSome_iff_exists.mp (I₀.live b q)
    have := k₀ b o2 e2
    rw [e] at this; cases this
    exact hWf b _ vs q e2
end
end Mine

namespace Mine
open PySem PySem.Calls PySem.W

/-! ### digits -/
noncomputable def DGN (n m x : Nat) : List Nat := (List.range m).map fun i => (x / 2 ^ (n * i)) % 2 ^ n
theorem DGN_len (n m x : Nat) : (DGN n m x).length = m := by simp [DGN]
theorem DG_N (n m x : Nat) : (DG n m x).map TInt = (DGN n m x).map fun (d : Nat) => TInt d := by
  unfold DG DGN
  rw [List.map_map, List.map_map]
  rfl
theorem DGN_succ (n m x : Nat) : DGN n (m + 1) x = x % 2 ^ n :: DGN n m (x / 2 ^ n) := by
  unfold DGN
  rw [List.range_succ_eq_map]
  simp only [List.map_cons, List.map_map, Nat.mul_zero, Nat.pow_zero, Nat.div_one]
  congr 1
  apply List.map_congr_left
  intro i _
  simp only [Function.comp]
  rw [Nat.div_div_eq_div_mul, ← Nat.pow_add]
  congr 3
  rw [Nat.mul_succ, Nat.add_comm]
theorem DV_DGN (n m : Nat) : ∀ x, x < 2 ^ (n * m) → DV n (DGN n m x) = x := by
  induction m with
  | zero => intro x hx; simp at hx; subst hx; rfl
  | succ m ih =>
    intro x hx
    rw [DGN_succ]
    show x % 2 ^ n + 2 ^ n * DV n (DGN n m (x / 2 ^ n)) = x
    rw [ih]
    · exact Nat.mod_add_div x (2 ^ n)
    · rw [Nat.div_lt_iff_lt_mul (Nat.two_pow_pos _), ← Nat.pow_add]
      rw [Nat.mul_succ] at hx; exact hx
theorem DGN_rev_at {n m x i : Nat} (h : i < m) : (DGN n m x).reverse[i]? = some ((x / 2 ^ (n * (m - 1 - i))) % 2 ^ n) := by
  rw [List.getElem?_reverse (by rw [DGN_len]; exact h), DGN_len]
  unfold DGN
  rw [List.getElem?_map, List.getElem?_range (by lia)]
  rfl
/-- one step of the long division -/
theorem long_step {v b n : Nat} (hb : 1 ≤ b) : ((v / 2 ^ n) % b * 2 ^ n + v % 2 ^ n) / b = (v / b) % 2 ^ n ∧ ((v / 2 ^ n) % b * 2 ^ n + v % 2 ^ n) % b = v % b := by
  have e1 : v = v / 2 ^ n * 2 ^ n + v % 2 ^ n := by have := Nat.div_add_mod v (2 ^ n); rw [Nat.mul_comm] at this; lia
  have e2 := Nat.div_add_mod (v / 2 ^ n) b
  have hr : (v / 2 ^ n) % b < b := Nat.mod_lt _ hb
  have hd : v % 2 ^ n < 2 ^ n := Nat.mod_lt _ (Nat.two_pow_pos _)
  generalize v / 2 ^ n / b = Q at e2
  generalize (v / 2 ^ n) % b = R at e2 hr ⊢
  generalize hd2 : v % 2 ^ n = D at hd e1 ⊢
  have e3 : v = (R * 2 ^ n + D) + b * (Q * 2 ^ n) := by
    rw [← e2] at e1
    rw [Nat.add_mul, Nat.mul_assoc] at e1
    lia
  have hlt : (R * 2 ^ n + D) / b < 2 ^ n := by
    rw [Nat.div_lt_iff_lt_mul hb]
    have : (R + 1) * 2 ^ n ≤ b * 2 ^ n := Nat.mul_le_mul_right _ hr
    rw [Nat.add_mul] at this
    rw [Nat.mul_comm (2 ^ n) b]
    lia
  constructor
  · rw [e3, Nat.add_mul_div_left _ _ hb, Nat.add_mul_mod_self_right, Nat.mod_eq_of_lt hlt]
  · rw [e3, Nat.add_mul_mod_self_left]
theorem nDig_ok {a n : Nat} (hn : 1 ≤ n) : a < 2 ^ (n * nDig a n) := by
  by_cases ha : a = 0
  · subst ha; exact Nat.two_pow_pos _
  · have hbit : Builtin.Int.intBits (a : Int) = a.log2 + 1 := by
      unfold Builtin.Int.intBits
      rw [if_neg (by simpa using ha)]
      rfl
    have hmd : a.log2 + 1 ≤ n * nDig a n := by
      unfold nDig
      rw [hbit]
      have := Nat.lt_div_mul_add (a := a.log2 + 1 + n - 1) (b := n) (by lia)
      rw [Nat.mul_comm]
      lia
    exact Nat.lt_of_lt_of_le (Nat.lt_log2_self (n := a)) (Nat.pow_le_pow_right (by decide) hmd)
theorem bits_lt {a k : Nat} (h : a < 2 ^ k) : Builtin.Int.intBits (a : Int) ≤ k := by
  unfold Builtin.Int.intBits
  by_cases ha : a = 0
  · subst ha; exact Nat.zero_le _
  · rw [if_neg (by simpa using ha)]
    have : a.log2 < k := (Nat.log2_lt ha).mpr h
    exact this
theorem bits_pos {b : Nat} (h : 1 ≤ b) : 1 ≤ Builtin.Int.intBits (b : Int) := by
  unfold Builtin.Int.intBits
  rw [if_neg (by simp; lia)]
  exact Nat.le_add_left _ _
theorem nDig_le {a n k : Nat} (h : a < 2 ^ k) (hn : 1 ≤ n) : nDig a n ≤ k := by
  unfold nDig
  have := bits_lt h
  rw [← Nat.lt_succ_iff, Nat.div_lt_iff_lt_mul (by lia)]
  rw [Nat.succ_mul]
  have h2 : k ≤ k * n := Nat.le_mul_of_pos_right k (by lia)
  lia

section
variable {w : World} {K : PM} {r : Nat}
theorem fn_div2 {a b n : Int} (kf : KF K GL) (F : FnAt K 7 80) (hb : b ≠ 0) (hb2 : b.natAbs < 1073741824) (ha : (Builtin.Int.intBits a : Int) - n ≤ 4000) :
    Fn PW w K 80 (r + 1) [(TInt a).w, (TInt b).w, (TInt n).w] (TTup [TInt (a.fdiv b), TInt (a.fmod b)]).w := by
  obtain ⟨o, pm, cd, doc, ho, hd, hc⟩ := F.at_
  refine fn_of_body (ps := [("a", TInt a), ("b", TInt b), ("n", TInt n)]) (P := TTup [TInt (a.fdiv b), TInt (a.fmod b)]) kf ho hd hc rfl rfl (fun vs hv => by obtain ⟨a, b, c, rfl⟩ := ln3 hv; rfl) (fun L => canP ⟨canLocal, canLocal, canLocal, trivial⟩)
    (fun L => ?_)
  refine ex_ret (exs_if (c := true) (tst_cast (tst_le (x := (Builtin.Int.intBits a : Int) - n) (y := 4000) (ev_sub (ev_bits ev_v) ev_v) ?_) (decide_eq_true ha)) (fun _ => ex_ret (exs_return ?_)) (fun h => by cases h))
  · exact Ev.weaken (ev_gname kf (fv := .int 4000 348) rfl) fun X h v p => ⟨348, p⟩
  · exact cb2 kf (fv := .builtin "divmod") (by first | rfl | decide +kernel) (by intro a h; cases h) (ev_v (P := TInt a)) (ev_v (P := TInt b)) fun X hh v v' p q => vl_divmod p q hb (PyProof.noPylong_small hb2)
end
end Mine

namespace Mine
open PySem PySem.Calls PySem.W

section
variable {w : World} {K : PM} {r : Nat}

/-- what the defs of the divisions need -/
structure DivAt (K : PM) : Prop where
  i9 : FnAtC K 9 94 93
  t9 : TabFacts K 93 89
  i10 : FnAtC K 10 101 100
  t10 : TabFacts K 100 96
  i7 : FnAt K 7 80
  i11 : FnAt K 11 108
  i12 : FnAt K 12 115

theorem tab_not {P : Addr} {pos : Pos} {q : Str} {h : Heap} (x : TabOk P pos q h) {o : Obj} {vs : Array Value} {q' : Str} {t : Tok} (e : h.get? P = some o) (d : o.data = .fields vs) (hv : vs[1]? = some (.str q' t)) : False := by
  obtain ⟨ps, e2, hor⟩ := x
  rw [e] at e2; cases e2
  cases d
  rcases hor with rfl | ⟨c', rfl, _⟩
  · cases hv
  · simp [rawInt] at hv

theorem fnt_i2d {a n : Nat} (kf : KF K GL) (D : DivAt K) (hn : 1 ≤ n) (hn2 : n ≤ 40) (ha : a < 2 ^ 40) : FnT w K 94 (r + 42) [(TInt a).w, (TInt n).w] (TList ((DGN n (nDig a n) a).map fun (d : Nat) => TInt d)).w := by
  intro A s X vs Q E R kK hX x89 x96 T hv c
  obtain ⟨va, vn, rfl, pa, pn⟩ := vs2 hv
  have hm := nDig_le ha hn
  refine int2digits_does kf D.i9 D.t9 hn hn2 ha (by lia) (R.le (by lia)) kK hX x89 pa pn T.1 fun v h' tk k T' p => ?_
  refine c v h' tk (fun b o h1 _ e => k b o h1 e) ⟨T', T.2.keep (fun o e => k _ _ (by decide) e) fun b o vs q t e d hv => k b o (fun z => tab_not T.1 (z ▸ e) d hv) e⟩ ?_
  rw [← DG_N]; exact p

theorem fnt_d2i {ds : List Nat} {n : Nat} (kf : KF K GL) (D : DivAt K) (hn : 1 ≤ n) (hn2 : n ≤ 40) (hV : DV n ds < 2 ^ 40) (hm : ds.length ≤ 40) : FnT w K 101 (r + 42) [(TList (ds.map fun (d : Nat) => TInt d)).w, (TInt n).w] (TInt (DV n ds : Nat)).w := by
  intro A s X vs Q E R kK hX x89 x96 T hv c
  obtain ⟨va, vn, rfl, pa, pn⟩ := vs2 hv
  refine digits2int_does kf D.i10 D.t10 hn hn2 hV (by lia) (R.le (by lia)) kK hX x96 pa pn T.2 fun v h' tk k T' p => ?_
  exact c v h' tk (fun b o _ h1 e => k b o h1 e) ⟨T.1.keep (fun o e => k _ _ (by decide) e) fun b o vs q t e d hv => k b o (fun z => tab_not T.2 (z ▸ e) d hv) e, T'⟩ p

set_option maxHeartbeats 4000000 in
theorem fnt_pos {a b : Nat} (kf : KF K GL) (D : DivAt K) (ha : a < 2 ^ 20) (hb : 1 ≤ b) (hb2 : b < 2 ^ 20) : FnT w K 108 (r + 44) [(TInt a).w, (TInt b).w] (TTup [TInt (a / b : Nat), TInt (a % b : Nat)]).w := by
  obtain ⟨o, pm, cd, doc, ho, hd, hc⟩ := D.i11.at_
  obtain ⟨o9, pm9, doc9, ho9, hd9, _⟩ := D.i9.at_
  obtain ⟨o10, pm10, doc10, ho10, hd10, _⟩ := D.i10.at_
  obtain ⟨o7, pm7, cd7, doc7, ho7, hd7, _⟩ := D.i7.at_
  refine fnt_of_body (r := r + 43) (ps := [("a", TInt a), ("b", TInt b)]) (P := TTup [TInt (a / b : Nat), TInt (a % b : Nat)]) kf D.t9.none_ D.t10.none_ ho hd hc rfl rfl (fun vs hv => by obtain ⟨a, b, rfl⟩ := ln2 hv; rfl) (fun L => canP ⟨canLocal, canLocal, trivial⟩) fun L => ?_
  generalize hnn : Builtin.Int.intBits (b : Int) = n
  have hn1 : 1 ≤ n := hnn ▸ bits_pos hb
  have hn2 : n ≤ 20 := hnn ▸ bits_lt hb2
  have hm : nDig a n ≤ 20 := nDig_le ha hn1
  have hx : a < 2 ^ (n * nDig a n) := nDig_ok hn1
  generalize hmm : nDig a n = m at hm hx
  let env := callEnvC (fdAt 11 pm cd doc) L 108
  let dT : List Nat → List HV := fun l => l.map fun (d : Nat) => TInt d
  let ρs : Nat → Ctx := fun i => [("q_digits", .ownS "list" (dT ((DGN n m (a / b)).reverse.take i))), ("r", .imm (TInt ((a / 2 ^ (n * (m - i))) % b : Nat))), ("a_digits", .imm (TList (dT (DGN n m a)))), ("n", .imm (TInt n)), ("b", .imm (TInt b)), ("a", .imm (TInt a))]
  refine ext_cons (exst_of (exs_assign (P := TInt n) canLocal ?_)) ?_
  · rw [← hnn]; exact ev_bits ev_v
  refine ext_cons (exst_assign (P := TList (dT (DGN n m a))) canLocal ?_) ?_
  · refine evt_fn kf rfl rfl rfl ho9 hd9 (evl_cons (P := (TInt a).w) ev_v (evl_cons (P := (TInt n).w) ev_v evl_nil)) ?_
    have := fnt_i2d (w := w) (r := r + 1) kf D hn1 (by lia) (show a < 2 ^ 40 by lia)
    rw [hmm] at this
    exact this
  refine ext_cons (exst_of (exs_assign (P := TInt 0) canLocal ev_int)) ?_
  refine ext_cons (exst_of (exs_new_list (Ps := []) canLocal (ev_list (Ps := []) evl_nil) (fun P hP => by cases hP))) ?_
  have z0 : (a / 2 ^ (n * (m - 0))) % b = 0 := by rw [Nat.sub_zero, Nat.div_eq_of_lt hx, Nat.zero_mod]
  refine ext_less (ρ' := ρs 0) ?_ (less ⟨rfl, eqI (by rw [z0]; rfl), rfl, rfl, rfl, rfl, trivial⟩)
  have hqlt : ∀ i, (a / b) / 2 ^ i < 2 ^ 20 := fun i => Nat.lt_of_le_of_lt (Nat.div_le_self _ _) (Nat.lt_of_le_of_lt (Nat.div_le_self _ _) ha)
  refine ext_cons (ρ' := ρs m) (exst_of (exs_for (Ps := (dT (DGN n m a)).reverse) ρs m canLocal (it_rev kf rfl rfl rfl ev_v) ?_ ?_ ?_)) ?_
  · simp [dT, DGN_len]
  · intro i P hi hP
    have hP2 : P = TInt (((a / 2 ^ (n * (m - 1 - i))) % 2 ^ n : Nat) : Int) := by
      have e : (dT (DGN n m a)).reverse = (DGN n m a).reverse.map fun (d : Nat) => TInt d := by simp [dT]
      rw [e, List.getElem?_map, DGN_rev_at hi] at hP
      simpa using hP.symm
    subst hP2
    have ev : a / 2 ^ (n * (m - i)) = a / 2 ^ (n * (m - 1 - i)) / 2 ^ n := by
      rw [Nat.div_div_eq_div_mul, ← Nat.pow_add]
      congr 2
      have : m - i = (m - 1 - i) + 1 := by lia
      rw [this, Nat.mul_succ]
    have st := long_step (v := a / 2 ^ (n * (m - 1 - i))) (b := b) (n := n) hb
    rw [← ev] at st
    generalize hv : a / 2 ^ (n * (m - 1 - i)) = v at st ev
    have hvlt : v < 2 ^ 20 := hv ▸ Nat.lt_of_le_of_lt (Nat.div_le_self _ _) ha
    generalize hrr : (a / 2 ^ (n * (m - i))) % b = rr at st
    have hrlt : rr < 2 ^ 20 := hrr ▸ Nat.lt_trans (Nat.mod_lt _ hb) hb2
    have hdlt : v % 2 ^ n < 2 ^ 20 := Nat.lt_of_le_of_lt (Nat.mod_le _ _) hvlt
    have hp20 : 2 ^ n ≤ 2 ^ 20 := Nat.pow_le_pow_right (by decide) hn2
    have hbig : rr * 2 ^ n + v % 2 ^ n < 2 ^ 41 := by
      have : rr * 2 ^ n ≤ 2 ^ 20 * 2 ^ 20 := Nat.mul_le_mul (by lia) hp20
      lia
    have heq : (rr : Int) * 2 ^ ((n : Int)).toNat + ((v % 2 ^ n : Nat) : Int) = ((rr * 2 ^ n + v % 2 ^ n : Nat) : Int) := by
      rw [Int.toNat_natCast]; push_cast; rfl
    have hfd : ((rr * 2 ^ n + v % 2 ^ n : Nat) : Int).fdiv (b : Int) = ((v / b % 2 ^ n : Nat) : Int) := by rw [← Int.ofNat_fdiv, st.1]
    have hfm : ((rr * 2 ^ n + v % 2 ^ n : Nat) : Int).fmod (b : Int) = ((v % b : Nat) : Int) := by rw [← Int.ofNat_fmod, st.2]
    have hcon := fn_div2 (w := w) (r := r + 42) (a := ((rr * 2 ^ n + v % 2 ^ n : Nat) : Int)) (b := b) (n := n) kf D.i7 (by lia) (by lia) (by have := intBits_le_64 (k := ((rr * 2 ^ n + v % 2 ^ n : Nat) : Int)) (by lia) (by lia); lia)
    rw [hfd, hfm] at hcon
    have hρ : ρs i = ([("q_digits", .ownS "list" (dT ((DGN n m (a / b)).reverse.take i))), ("r", .imm (TInt (rr : Nat))), ("a_digits", .imm (TList (dT (DGN n m a)))), ("n", .imm (TInt n)), ("b", .imm (TInt b)), ("a", .imm (TInt a))] : Ctx) := by
      rw [← hrr]
    rw [hρ]
    refine ex_cons (exs_unpack [("q_digit", _), ("r", _)] (Ps := [TInt (v / b % 2 ^ n : Nat), TInt (v % b : Nat)]) ?_ rfl (lOf (ev_fn kf rfl rfl rfl ho7 hd7 (evl_cons (P := (TInt ((rr * 2 ^ n + v % 2 ^ n : Nat) : Int)).w) (ev_castI (ev_add (ev_shl ev_v ev_v (by lia) (by lia) (by rw [Int.natAbs_natCast]; lia)) ev_v) heq) (evl_cons (P := (TInt b).w) ev_v (evl_cons (P := (TInt n).w) ev_v evl_nil))) hcon))) ?_
    · exact allCan ⟨canLocal, canLocal, trivial⟩
    refine ex_out (ex_cons (exs_append (Ps := dT ((DGN n m (a / b)).reverse.take i)) (P := TInt (v / b % 2 ^ n : Nat)) rfl rfl ev_v ?_) ex_nil) (less ⟨?_, ?_, rfl, rfl, rfl, rfl, trivial⟩)
    · simp only [dT, List.length_map, List.length_take]; rw [sizeLine_eq]; lia
    · have hat : (DGN n m (a / b)).reverse[i]? = some (v / b % 2 ^ n) := by
        rw [DGN_rev_at hi, Nat.div_div_eq_div_mul, Nat.mul_comm b, ← Nat.div_div_eq_div_mul, hv]
      show some _ = some _
      congr 2
      show _ = dT _
      rw [List.take_add_one, hat]
      simp [dT]
    · have : m - (i + 1) = m - 1 - i := by lia
      show some _ = some (Ent.imm (TInt _))
      rw [this, hv]
  · exact .inl ⟨by simp [dT, DGN_len], rfl⟩
  have htk : (DGN n m (a / b)).reverse.take m = (DGN n m (a / b)).reverse := List.take_of_length_le (by simp [DGN_len])
  refine ext_cons (exst_of (exs_reverse (Ps := dT ((DGN n m (a / b)).reverse.take m)) rfl rfl ?_)) ?_
  · simp only [dT, List.length_map, List.length_take]; rw [sizeLine_eq]; lia
  refine ext_less (ρ' := [("q_digits", .ownS "list" (dT (DGN n m (a / b)))), ("r", .imm (TInt (a % b : Nat))), ("n", .imm (TInt n))]) ?_ (less ⟨?_, eqI ?_, rfl, trivial⟩)
  · refine ext_freeze (x := "q_digits") rfl ?_
    have hval : DV n (DGN n m (a / b)) = a / b := DV_DGN n m (a / b) (Nat.lt_of_le_of_lt (Nat.div_le_self _ _) hx)
    have hq : a / b < 2 ^ 20 := Nat.lt_of_le_of_lt (Nat.div_le_self _ _) ha
    refine ext_cons (exst_assign (P := TInt (a / b : Nat)) canLocal ?_) ?_
    · refine evt_fn kf rfl rfl rfl ho10 hd10 (evl_cons (P := (TList (dT (DGN n m (a / b)))).w) ev_v (evl_cons (P := (TInt n).w) ev_v evl_nil)) ?_
      have := fnt_d2i (w := w) (r := r + 1) (ds := DGN n m (a / b)) kf D hn1 (by lia) (by rw [hval]; lia) (by rw [DGN_len]; lia)
      rw [hval] at this
      exact this
    · exact ext_ret (exst_return (evt_of (ev_tuple (Ps := [TInt (a / b : Nat), TInt (a % b : Nat)]) (evl_cons (P := (TInt (a / b : Nat)).w) ev_v (evl_cons (P := (TInt (a % b : Nat)).w) ev_v evl_nil)) (by rw [sizeLine_eq]; simp))))
  · show some _ = some _
    rw [htk]
    simp [dT]
  · rw [Nat.sub_self, Nat.mul_zero, Nat.pow_zero, Nat.div_one]
end
end Mine

namespace Mine
open PySem PySem.Calls PySem.W

section
variable {w : World} {K : PM} {r : Nat}

theorem fdiv_neg' (m b : Nat) (hb : 1 ≤ b) : (-(m : Int) - 1).fdiv (b : Int) = -((m / b : Nat) : Int) - 1 ∧ (-(m : Int) - 1).fmod (b : Int) = (b : Int) + (-((m % b : Nat) : Int) - 1) := by
  have h1 := Int.mul_fdiv_add_fmod (-(m : Int) - 1) (b : Int)
  have h2 := Int.fmod_nonneg_of_pos (-(m : Int) - 1) (show (0 : Int) < b by lia)
  have h3 := Int.fmod_lt_of_pos (-(m : Int) - 1) (show (0 : Int) < b by lia)
  have h4 := Nat.div_add_mod m b
  have h5 := Nat.mod_lt m (show 0 < b by lia)
  generalize (-(m : Int) - 1).fdiv (b : Int) = q at *
  generalize (-(m : Int) - 1).fmod (b : Int) = t at *
  generalize m / b = Q at *
  generalize m % b = T at *
  have h6 : (b : Int) * q + t = -((b * Q + T : Nat) : Int) - 1 := by rw [h4]; exact h1
  have hq : q = -(Q : Int) - 1 := by
    have e : (b : Int) * (q + Q + 1) = (b : Int) - 1 - T - t := by
      rw [Int.mul_add, Int.mul_add, Int.mul_one]
      push_cast at h6
      lia
    have up : (b : Int) * (q + Q + 1) < b := by lia
    have lo : -(b : Int) < (b : Int) * (q + Q + 1) := by lia
    rcases Int.lt_trichotomy (q + Q + 1) 0 with z | z | z
    · have : (b : Int) * (q + Q + 1) ≤ (b : Int) * (-1) := Int.mul_le_mul_of_nonneg_left (by lia) (by lia)
      lia
    · lia
    · have : (b : Int) * 1 ≤ (b : Int) * (q + Q + 1) := Int.mul_le_mul_of_nonneg_left (by lia) (by lia)
      lia
  refine ⟨hq, ?_⟩
  subst hq
  push_cast at h6
  rw [Int.mul_sub, Int.mul_one, Int.mul_neg] at h6
  lia

theorem fnt_idm0 {a b : Nat} (kf : KF K GL) (D : DivAt K) (ha : a < 2 ^ 20) (hb : 1 ≤ b) (hb2 : b < 2 ^ 20) : FnT w K 115 (r + 45) [(TInt a).w, (TInt b).w] (TTup [TInt (a / b : Nat), TInt (a % b : Nat)]).w := by
  obtain ⟨o, pm, cd, doc, ho, hd, hc⟩ := D.i12.at_
  obtain ⟨o11, pm11, cd11, doc11, ho11, hd11, _⟩ := D.i11.at_
  refine fnt_of_body (r := r + 44) (ps := [("a", TInt a), ("b", TInt b)]) (P := TTup [TInt (a / b : Nat), TInt (a % b : Nat)]) kf D.t9.none_ D.t10.none_ ho hd hc rfl rfl (fun vs hv => by obtain ⟨a, b, rfl⟩ := ln2 hv; rfl) (fun L => canP ⟨canLocal, canLocal, trivial⟩) fun L => ?_
  refine ext_ret (exst_if (c := false) (tst_cast (tst_eq (ev_v (P := TInt b)) ev_int) (decide_eq_false (by lia))) (fun h => by cases h) fun _ => ?_)
  refine ext_ret (exst_if (c := false) (tst_cast (tst_lt (ev_v (P := TInt b)) ev_int) (decide_eq_false (by lia))) (fun h => by cases h) fun _ => ?_)
  refine ext_ret (exst_if (c := false) (tst_cast (tst_lt (ev_v (P := TInt a)) ev_int) (decide_eq_false (by lia))) (fun h => by cases h) fun _ => ?_)
  exact ext_ret (exst_return (evt_fn kf rfl rfl rfl ho11 hd11 (evl_cons (P := (TInt a).w) ev_v (evl_cons (P := (TInt b).w) ev_v evl_nil)) (fnt_pos kf D ha hb hb2)))

theorem fnt_idm {a : Int} {b : Nat} (kf : KF K GL) (D : DivAt K) (ha : a.natAbs < 2 ^ 20) (hb : 1 ≤ b) (hb2 : b < 2 ^ 20) : FnT w K 115 (r + 46) [(TInt a).w, (TInt b).w] (TTup [TInt (a.fdiv b), TInt (a.fmod b)]).w := by
  rcases Int.lt_or_le a 0 with hneg | hpos
  · obtain ⟨m, rfl⟩ : ∃ m : Nat, a = -(m : Int) - 1 := ⟨(-a - 1).toNat, by lia⟩
    obtain ⟨o, pm, cd, doc, ho, hd, hc⟩ := D.i12.at_
    have hm : m < 2 ^ 20 := by lia
    obtain ⟨e1, e2⟩ := fdiv_neg' m b hb
    rw [e1, e2]
    have hnot : Builtin.bitNot (-(m : Int) - 1) = (m : Int) := by unfold Builtin.bitNot; lia
    refine fnt_of_body (r := r + 45) (ps := [("a", TInt (-(m : Int) - 1)), ("b", TInt b)]) (P := TTup [TInt (-((m / b : Nat) : Int) - 1), TInt ((b : Int) + (-((m % b : Nat) : Int) - 1))]) kf D.t9.none_ D.t10.none_ ho hd hc rfl rfl (fun vs hv => by obtain ⟨a, b, rfl⟩ := ln2 hv; rfl) (fun L => canP ⟨canLocal, canLocal, trivial⟩) fun L => ?_
    refine ext_ret (exst_if (c := false) (tst_cast (tst_eq (ev_v (P := TInt b)) ev_int) (decide_eq_false (by lia))) (fun h => by cases h) fun _ => ?_)
    refine ext_ret (exst_if (c := false) (tst_cast (tst_lt (ev_v (P := TInt b)) ev_int) (decide_eq_false (by lia))) (fun h => by cases h) fun _ => ?_)
    refine ext_ret (exst_if (c := true) (tst_cast (tst_lt (ev_v (P := TInt (-(m : Int) - 1))) ev_int) (decide_eq_true (by lia))) (fun _ => ?_) (fun h => by cases h))
    refine ext_cons (exst_unpack [("q", _), ("r", _)] (Ps := [TInt (m / b : Nat), TInt (m % b : Nat)]) ?_ rfl (evt_weaken (evt_fn kf rfl rfl rfl ho hd (evl_cons (P := (TInt (m : Int)).w) (ev_castI (ev_inv (ev_v (P := TInt (-(m : Int) - 1)))) hnot) (evl_cons (P := (TInt b).w) ev_v evl_nil)) (fnt_idm0 kf D hm hb hb2)) fun X h v p => p.2)) ?_
    · exact allCan ⟨canLocal, canLocal, trivial⟩
    exact ext_ret (exst_return (evt_of (ev_tuple (Ps := [TInt (-((m / b : Nat) : Int) - 1), TInt ((b : Int) + (-((m % b : Nat) : Int) - 1))]) (evl_cons (P := (TInt (-((m / b : Nat) : Int) - 1)).w) (ev_inv (ev_v (P := TInt (m / b : Nat)))) (evl_cons (P := (TInt ((b : Int) + (-((m % b : Nat) : Int) - 1))).w) (ev_add (ev_v (P := TInt b)) (ev_inv (ev_v (P := TInt (m % b : Nat))))) evl_nil)) (by rw [sizeLine_eq]; simp))))
  · obtain ⟨m, rfl⟩ := Int.eq_ofNat_of_zero_le hpos
    have := fnt_idm0 (w := w) (r := r + 1) (a := m) (b := b) kf D (by lia) hb hb2
    rw [← Int.ofNat_fdiv, ← Int.ofNat_fmod]
    exact this
end
end Mine

namespace Mine
open PySem PySem.Calls PySem.W

/-! ### the pattern's machine -/
open PySem.Sre in
noncomputable def intOf : Expr → Nat
  | .Constant (.int i) _ _ => i.toNat
  | _ => 0
noncomputable def patOf : Stmt → Array Nat
  | .Assign _ (.Call _ (_ :: _ :: .List es _ :: _) _ _) _ => (es.map intOf).toArray
  | _ => #[]
noncomputable def pat : Array Nat := patOf (stm 19)
section
open PySem.Sre
theorem step_exec {m : M} (ho : m.outcome = none) (ha : m.answer = none) (hp : m.pc < m.code.size) : m.step = m.exec := by
  unfold M.step
  rw [ho, ha]
  simp only [Option.isSome_none, Bool.false_eq_true, if_false]
  rw [if_pos hp]
theorem step_resume {m : M} {f : Sre.Frame} {rest : List Sre.Frame} {yes : Bool} (ho : m.outcome = none) (ha : m.answer = some yes) (hf : m.frames = f :: rest) :
    m.step = M.resume { m with answer := none, frames := rest, weight := m.weight - (1 + f.kept.marks.size), pc := f.pc, pos := f.pos, outermost := f.outermost } f yes := by
  unfold M.step
  rw [ho, ha, hf]
  rfl
theorem step_end {m : M} {yes : Bool} (ho : m.outcome = none) (ha : m.answer = some yes) (hf : m.frames = []) : m.step = { m with outcome := some (if yes then .matched else .failed) } := by
  unfold M.step
  rw [ho, ha, hf]
  rfl
noncomputable def sees (m : M) : M := { m with seen := m.seen.add (m.word 0) }
theorem exec_lit {m : M} (h : m.code.getD m.pc 0 = 16) : m.exec = if m.pos ≥ m.lim then (sees m).say false else if m.text.getD m.pos 0 = m.code.getD (m.pc + 1) 0 then { sees m with pc := m.pc + 2, pos := m.pos + 1 } else (sees m).say false := by
  have hw : ops[m.word 0]? = some .LITERAL := by unfold M.word; rw [Nat.add_zero, h]; rfl
  have hw2 : ops[m.code.getD m.pc 0]? = some .LITERAL := by rw [h]; rfl
  unfold M.exec
  rw [hw]
  simp only [accepts, hw2, itemWidth]
  by_cases hp : m.pos ≥ m.lim
  · rw [if_pos hp, if_pos hp]; rfl
  · rw [if_neg hp, if_neg hp]
    by_cases he : m.text.getD m.pos 0 = m.code.getD (m.pc + 1) 0
    · rw [if_pos he]
      have : (m.text.getD m.pos 0 == m.code.getD (m.pc + 1) 0) = true := by simpa using he
      rw [this]; rfl
    · rw [if_neg he]
      have : (m.text.getD m.pos 0 == m.code.getD (m.pc + 1) 0) = false := by simpa using he
      rw [this]; rfl

/-- the machine's states at this pattern -/
noncomputable def SS (t : Array Nat) (must : Bool) (seen : Sre.Seen) (start pc pos handed : Nat) (outermost : Bool) (loops : Array Sre.Loop) (inner : Option Nat) (frames : List Sre.Frame) (weight : Nat) (answer : Option Bool) : M :=
  { code := pat, text := t, lim := t.size, start := start, lastStart := t.size, mustAdvance := must, pc := pc, pos := pos, handed := handed, outermost := outermost, marks := #[], loops := loops, inner := inner, frames := frames, weight := weight, answer := answer, seen := seen }
noncomputable def fStart (s : Nat) (first : Bool) : Sre.Frame := { wait := .nextStart, pc := 9, pos := s, outermost := first }
noncomputable def keptT : Sre.Kept := { lastmark := -1, lastindex := -1, whole := true, marks := #[] }
noncomputable def fPoss (q : Nat) (first : Bool) (count : Int) : Sre.Frame := { wait := .possMore, pc := 11, pos := q, outermost := first, loop := 0, count := count, kept := keptT }
noncomputable def fAlt (pc q : Nat) : Sre.Frame := { wait := .nextBranch, pc := pc, pos := q, outermost := false, kept := keptT }
noncomputable def loop0 : Array Sre.Loop := #[{ pc := 0, outer := none }]
/-- at a start -/
noncomputable def at9 (t : Array Nat) (s : Nat) (first must : Bool) (seen : Sre.Seen) : M := SS t must seen s 9 s s first #[] none [fStart s first] 1 none
/-- ahead of one more character within the quotation -/
noncomputable def in15 (t : Array Nat) (s q : Nat) (first must : Bool) (count : Int) (seen : Sre.Seen) : M := SS t must seen s 15 q q false loop0 (some 0) [fPoss q first count, fStart s first] 2 none

section
variable {t : Array Nat} {must first om : Bool} {seen : Sre.Seen} {s pc q hd : Nat} {loops : Array Sre.Loop} {inner : Option Nat} {frames : List Sre.Frame} {weight : Nat} {answer : Option Bool}

theorem lit_no (hp : pc < 38) (h16 : pat.getD pc 0 = 16) (h : q ≥ t.size ∨ t.getD q 0 ≠ pat.getD (pc + 1) 0) : ∃ seen', (SS t must seen s pc q hd om loops inner frames weight none).step = SS t must seen' s pc q hd om loops inner frames weight (some false) := by
  refine ⟨seen.add (pat.getD (pc + 0) 0), ?_⟩
  rw [step_exec rfl rfl hp, exec_lit h16]
  show (if q ≥ t.size then _ else if t.getD q 0 = pat.getD (pc + 1) 0 then _ else _) = _
  by_cases hq : q ≥ t.size
  · rw [if_pos hq]; rfl
  · rw [if_neg hq, if_neg (h.resolve_left hq)]; rfl
theorem lit_yes (hp : pc < 38) (h16 : pat.getD pc 0 = 16) (hq : q < t.size) (h : t.getD q 0 = pat.getD (pc + 1) 0) : ∃ seen', (SS t must seen s pc q hd om loops inner frames weight none).step = SS t must seen' s (pc + 2) (q + 1) hd om loops inner frames weight none := by
  refine ⟨seen.add (pat.getD (pc + 0) 0), ?_⟩
  rw [step_exec rfl rfl hp, exec_lit h16]
  show (if q ≥ t.size then _ else if t.getD q 0 = pat.getD (pc + 1) 0 then _ else _) = _
  rw [if_neg (by lia), if_pos h]
  rfl

/-- so many steps, none of them the last one of all -/
noncomputable def To : Nat → M → M → Prop
  | 0, m, m' => m = m'
  | n + 1, m, m' => m.outcome = none ∧ To n m.step m'
theorem To.trans {a b : Nat} {m m' m'' : M} (x : To a m m') (y : To b m' m'') : To (a + b) m m'' := by
  induction a generalizing m with
  | zero => cases x; rw [Nat.zero_add]; exact y
  | succ a ih => rw [Nat.succ_add]; exact ⟨x.1, ih x.2⟩
theorem To.one {m m' : M} (ho : m.outcome = none) (h : m.step = m') : To 1 m m' := ⟨ho, h⟩

/-- no quotation mark here: the next start -/
theorem m_next (h : s < t.size) (hc : t.getD s 0 ≠ 34) : ∃ seen', To 2 (at9 t s first must seen) (at9 t (s + 1) false false seen') := by
  obtain ⟨s1, e1⟩ := lit_no (t := t) (must := must) (seen := seen) (s := s) (pc := 9) (q := s) (hd := s) (om := first) (loops := #[]) (inner := none) (frames := [fStart s first]) (weight := 1) (by decide) rfl (.inr hc)
  refine ⟨s1, (To.one rfl e1).trans (To.one rfl ?_)⟩
  rw [step_resume (f := fStart s first) (rest := []) rfl rfl rfl]
  show (if s < t.size then _ else _) = _
  rw [if_pos h]
  rfl
/-- the end -/
theorem m_over : ∃ m, To 3 (at9 t t.size first must seen) m ∧ m.outcome = some .failed := by
  obtain ⟨s1, e1⟩ := lit_no (t := t) (must := must) (seen := seen) (s := t.size) (pc := 9) (q := t.size) (hd := t.size) (om := first) (loops := #[]) (inner := none) (frames := [fStart t.size first]) (weight := 1) (by decide) rfl (.inl (Nat.le_refl _))
  have e2 : (SS t must s1 t.size 9 t.size t.size first #[] none [fStart t.size first] 1 (some false)).step = SS t must s1 t.size 9 t.size t.size first #[] none [] 0 (some false) := by
    rw [step_resume (f := fStart t.size first) (rest := []) rfl rfl rfl]
    show (if t.size < t.size then _ else _) = _
    rw [if_neg (Nat.lt_irrefl _)]
    rfl
  exact ⟨_, (To.one rfl e1).trans ((To.one rfl e2).trans (To.one rfl (step_end rfl rfl rfl))), rfl⟩

/-- a quotation mark: the loop begins -/
theorem m_quote (h : s < t.size) (hc : t.getD s 0 = 34) : ∃ seen', To 2 (at9 t s first must seen) (in15 t s (s + 1) first must 0 seen') := by
  obtain ⟨s1, e1⟩ := lit_yes (t := t) (must := must) (seen := seen) (s := s) (pc := 9) (q := s) (hd := s) (om := first) (loops := #[]) (inner := none) (frames := [fStart s first]) (weight := 1) (by decide) rfl h hc
  refine ⟨s1.add 28, (To.one rfl e1).trans (To.one rfl ?_)⟩
  rw [step_exec rfl rfl (show (11 : Nat) < 38 by decide)]
  rfl
/-- a character within the quotation -/
theorem branch (count : Int) : ∃ seen', To 1 (in15 t s q first must count seen) (SS t must seen' s 17 q q false loop0 (some 0) [fAlt 16 q, fPoss q first count, fStart s first] 3 none) := by
  refine ⟨seen.add 7, To.one rfl ?_⟩
  unfold in15
  rw [step_exec rfl rfl (show (15 : Nat) < 38 by decide)]
  rfl
theorem set_no (c : Nat) (h : c = 34) (seen : Sre.Seen) : ∃ seen', inSet pat c pat.size 19 true seen = .ok (false, seen') := by
  subst h
  exact ⟨_, rfl⟩
theorem set_yes (c : Nat) (h : c ≠ 34) (h2 : c ≠ 92) (seen : Sre.Seen) : ∃ seen', inSet pat c pat.size 19 true seen = .ok (true, seen') := by
  refine ⟨(((seen.add 21).add 16).add 16).add 0, ?_⟩
  show inSet pat c 38 19 true seen = _
  show inSet pat c 37 20 false (seen.add 21) = _
  show (if c == 34 then _ else _) = _
  rw [if_neg (by simpa using h)]
  show inSet pat c 36 22 false _ = _
  show (if c == 92 then _ else _) = _
  rw [if_neg (by simpa using h2)]
  rfl
theorem exec_in {m : M} (h : m.code.getD m.pc 0 = 13) (hp : m.pos < m.lim) {yes : Bool} {seen' : Sre.Seen} (hs : inSet m.code (m.text.getD m.pos 0) m.code.size (m.pc + 2) true (m.seen.add 13) = .ok (yes, seen')) :
    m.exec = if yes then { m with seen := seen', pc := m.pc + (1 + m.code.getD (m.pc + 1) 0), pos := m.pos + 1 } else { m with seen := seen' }.say false := by
  have hw : m.word 0 = 13 := by unfold M.word; rw [Nat.add_zero, h]
  have hw1 : ops[m.word 0]? = some .IN := by rw [hw]; rfl
  have hw2 : ops[m.code.getD m.pc 0]? = some .IN := by rw [h]; rfl
  unfold M.exec
  rw [hw1]
  simp only [accepts, hw2, itemWidth]
  rw [if_neg (by lia), hw, hs]
  cases yes <;> rfl
theorem poss_more {m : M} {i : Nat} {count : Int} {began : Option Nat} (hcode : m.code = pat) (hpc : m.pc = 11) (hc : 0 ≤ count) (hb : began ≠ some m.handed) :
    m.possessive i count began = m.attempt { m.frame .possMore with pos := m.handed, loop := i, count, kept := m.keep true } 15 m.handed false := by
  unfold M.possessive M.word
  rw [hcode, hpc]
  show (if count < ((0 : Nat) : Int) then _ else if ((decide (count < ((4294967295 : Nat) : Int)) || (4294967295 == maxRepeat)) && began != some m.handed) = true then _ else _) = _
  rw [if_neg (by lia), if_pos]
  rw [show ((4294967295 : Nat) == maxRepeat) = true from rfl, Bool.or_true, Bool.true_and]
  simpa using hb
theorem poss_out {m : M} {i : Nat} {count : Int} {began : Option Nat} (hcode : m.code = pat) (hpc : m.pc = 11) (hc : 0 ≤ count) (hb : began = some m.handed) :
    m.possessive i count began = { m with inner := (m.loopAt i).outer, loops := m.loops.pop, pc := 35, pos := m.handed } := by
  unfold M.possessive M.word
  rw [hcode, hpc]
  show (if count < ((0 : Nat) : Int) then _ else if ((decide (count < ((4294967295 : Nat) : Int)) || (4294967295 == maxRepeat)) && began != some m.handed) = true then _ else _) = _
  rw [if_neg (by lia), if_neg]
  · rfl
  · rw [hb]; simp
theorem m_char {count : Int} (hc : 0 ≤ count) (hq : q < t.size) (h : t.getD q 0 ≠ 34) (h2 : t.getD q 0 ≠ 92) : ∃ seen', To 6 (in15 t s q first must count seen) (in15 t s (q + 1) first must (count + 1) seen') := by
  obtain ⟨s1, b1⟩ := branch (t := t) (s := s) (q := q) (first := first) (must := must) (seen := seen) count
  obtain ⟨s2, hs⟩ := set_yes _ h h2 (s1.add 13)
  have e2 : (SS t must s1 s 17 q q false loop0 (some 0) [fAlt 16 q, fPoss q first count, fStart s first] 3 none).step = SS t must s2 s 25 (q + 1) q false loop0 (some 0) [fAlt 16 q, fPoss q first count, fStart s first] 3 none := by
    rw [step_exec rfl rfl (show (17 : Nat) < 38 by decide), exec_in rfl hq hs]
    rfl
  have e3 : (SS t must s2 s 25 (q + 1) q false loop0 (some 0) [fAlt 16 q, fPoss q first count, fStart s first] 3 none).step = SS t must (s2.add 15) s 34 (q + 1) q false loop0 (some 0) [fAlt 16 q, fPoss q first count, fStart s first] 3 none := by
    rw [step_exec rfl rfl (show (25 : Nat) < 38 by decide)]
    rfl
  have e4 : (SS t must (s2.add 15) s 34 (q + 1) q false loop0 (some 0) [fAlt 16 q, fPoss q first count, fStart s first] 3 none).step = SS t must ((s2.add 15).add 1) s 34 (q + 1) (q + 1) false loop0 (some 0) [fAlt 16 q, fPoss q first count, fStart s first] 3 (some true) := by
    rw [step_exec rfl rfl (show (34 : Nat) < 38 by decide)]
    rfl
  have e5 : (SS t must ((s2.add 15).add 1) s 34 (q + 1) (q + 1) false loop0 (some 0) [fAlt 16 q, fPoss q first count, fStart s first] 3 (some true)).step = SS t must ((s2.add 15).add 1) s 16 q (q + 1) false loop0 (some 0) [fPoss q first count, fStart s first] 2 (some true) := by
    rw [step_resume (f := fAlt 16 q) rfl rfl rfl]
    rfl
  have e6 : (SS t must ((s2.add 15).add 1) s 16 q (q + 1) false loop0 (some 0) [fPoss q first count, fStart s first] 2 (some true)).step = in15 t s (q + 1) first must (count + 1) ((s2.add 15).add 1) := by
    rw [step_resume (f := fPoss q first count) rfl rfl rfl]
    show M.possessive _ 0 (count + 1) (some q) = _
    rw [poss_more rfl rfl (by lia) (by show some q ≠ some (q + 1); simp)]
    rfl
  exact ⟨_, b1.trans ((To.one rfl e2).trans ((To.one rfl e3).trans ((To.one rfl e4).trans ((To.one rfl e5).trans (To.one rfl e6)))))⟩
/-- the closing quotation mark -/
theorem m_close {count : Int} (hc : 0 ≤ count) (hq : q < t.size) (h : t.getD q 0 = 34) (hsq : s ≠ q + 1) : ∃ m, To 10 (in15 t s q first must count seen) m ∧ m.outcome = some .matched ∧ m.start = s ∧ m.handed = q + 1 := by
  obtain ⟨s1, b1⟩ := branch (t := t) (s := s) (q := q) (first := first) (must := must) (seen := seen) count
  obtain ⟨s2, hs⟩ := set_no _ h (s1.add 13)
  have e2 : (SS t must s1 s 17 q q false loop0 (some 0) [fAlt 16 q, fPoss q first count, fStart s first] 3 none).step = SS t must s2 s 17 q q false loop0 (some 0) [fAlt 16 q, fPoss q first count, fStart s first] 3 (some false) := by
    rw [step_exec rfl rfl (show (17 : Nat) < 38 by decide), exec_in rfl hq hs]
    rfl
  have e3 : (SS t must s2 s 17 q q false loop0 (some 0) [fAlt 16 q, fPoss q first count, fStart s first] 3 (some false)).step = SS t must s2 s 28 q q false loop0 (some 0) [fAlt 27 q, fPoss q first count, fStart s first] 3 none := by
    rw [step_resume (f := fAlt 16 q) rfl rfl rfl]
    rfl
  obtain ⟨s3, e4⟩ := lit_no (t := t) (must := must) (seen := s2) (s := s) (pc := 28) (q := q) (hd := q) (om := false) (loops := loop0) (inner := some 0) (frames := [fAlt 27 q, fPoss q first count, fStart s first]) (weight := 3) (by decide) rfl (.inr (by rw [h]; decide))
  have e5 : (SS t must s3 s 28 q q false loop0 (some 0) [fAlt 27 q, fPoss q first count, fStart s first] 3 (some false)).step = SS t must s3 s 27 q q false loop0 (some 0) [fPoss q first count, fStart s first] 2 (some false) := by
    rw [step_resume (f := fAlt 27 q) rfl rfl rfl]
    rfl
  have e6 : (SS t must s3 s 27 q q false loop0 (some 0) [fPoss q first count, fStart s first] 2 (some false)).step = SS t must s3 s 35 q q first #[] none [fStart s first] 1 none := by
    rw [step_resume (f := fPoss q first count) rfl rfl rfl]
    show M.possessive _ 0 count (some q) = _
    refine Eq.trans (poss_out rfl rfl hc rfl) ?_
    rfl
  obtain ⟨s4, e7⟩ := lit_yes (t := t) (must := must) (seen := s3) (s := s) (pc := 35) (q := q) (hd := q) (om := first) (loops := #[]) (inner := none) (frames := [fStart s first]) (weight := 1) (by decide) rfl hq h
  have e8 : (SS t must s4 s (35 + 2) (q + 1) q first #[] none [fStart s first] 1 none).step = SS t must (s4.add 1) s 37 (q + 1) (q + 1) first #[] none [fStart s first] 1 (some true) := by
    rw [step_exec rfl rfl (show (37 : Nat) < 38 by decide)]
    show (if (first && ((false && (q + 1 != t.size)) || (must && (q + 1 == s)))) = true then _ else _) = _
    rw [if_neg]
    · rfl
    · have : (q + 1 == s) = false := by simpa using fun z => hsq z.symm
      rw [this]; simp
  have e9 : (SS t must (s4.add 1) s 37 (q + 1) (q + 1) first #[] none [fStart s first] 1 (some true)).step = SS t must (s4.add 1) s 9 s (q + 1) first #[] none [] 0 (some true) := by
    rw [step_resume (f := fStart s first) rfl rfl rfl]
    rfl
  exact ⟨_, b1.trans ((To.one rfl e2).trans ((To.one rfl e3).trans ((To.one rfl e4).trans ((To.one rfl e5).trans ((To.one rfl e6).trans ((To.one rfl e7).trans ((To.one rfl e8).trans ((To.one rfl e9).trans (To.one rfl (step_end rfl rfl rfl)))))))))), rfl, rfl, rfl⟩
end
end
end Mine

namespace Mine
open PySem PySem.Calls PySem.W

/-! ### bytes.count -/
theorem slot_bytes_count : Slot "bytes" "count" "bytes.count" :=
  .of (owner := "bytes") (n := "count") (by rw [typeLookup_type, builtinLookup_eq_fast]; kernel_rfl) (by decide +kernel) (by decide +kernel) (by decide +kernel)
    (by first | exact .inl (by decide +kernel) | exact .inr (by decide +kernel)) (by rw [isSubtype_type]; kernel_rfl)
theorem type_bytes_count : typeOf (.builtin "bytes.count") = pure (.type "method_descriptor") := by show builtinType _ = _; rw [builtinType_eq_fast]; kernel_rfl
theorem entry_bytes_count : entryFor table "bytes.count" = some Builtin.«bytes.count» := entryFor_of_tree (by kernel_rfl)
theorem args_bytes_count (a b : Value) : argsOk "bytes.count" ⟨[a, b], []⟩ := by
  unfold argsOk; rw [signature?_of (id := "bytes.count") (n := ['t', 'n', 'u', 'o', 'c']) (o := ['s', 'e', 't', 'y', 'b']) (by kernel_rfl) FB.owner_bytes]; kernel_rfl

noncomputable def occ (b : Array UInt8) (x : UInt8) : Nat := (Builtin.Bytes.occurrences b #[x] 0 b.size).length
theorem searchArgs_eq (b : Array UInt8) (x : UInt8) (t u : Tok) : Builtin.Bytes.searchArgs .bytes "count" ⟨[.bytes b t, .bytes #[x] u], []⟩ = pure (b, #[x], if min (b.size : Int) (if (b.size : Int) < 0 then max 0 ((b.size : Int) + b.size) else b.size) - 0 < ((1 : Nat) : Int) then none else some (0, (min (b.size : Int) (if (b.size : Int) < 0 then max 0 ((b.size : Int) + b.size) else b.size)).toNat)) := by
  unfold Builtin.Bytes.searchArgs
  show (Builtin.Bytes.buffer? _ (.bytes #[x] u) >>= fun r => _) = _
  rw [KBy.buffer_eq]
  rfl
theorem gives_count (b : Array UInt8) (x : UInt8) (t u : Tok) : Gives (Builtin.«bytes.count» ⟨[.bytes b t, .bytes #[x] u], []⟩) (.int (if (b.size : Int) < 1 then 0 else occ b x)) := by
  refine .of_wp fun M A E s Q hq => ?_
  show wpAny M A (Builtin.Bytes.searchArgs .bytes "count" ⟨[.bytes b t, .bytes #[x] u], []⟩ >>= fun r => _) _ E s
  refine wpAny_bind (wpAny_of_eq (searchArgs_eq b x t u) ?_)
  have e : (if (b.size : Int) < 0 then max 0 ((b.size : Int) + b.size) else (b.size : Int)) = b.size := by rw [if_neg (by lia)]
  rw [e, Int.min_self, Int.sub_zero]
  by_cases h : (b.size : Int) < ((1 : Nat) : Int)
  · rw [if_pos h]
    rw [if_pos (by lia)] at hq
    exact wpAny_bind (wpAny_mkInt (wpAny_pure ⟨_, rfl, hq⟩))
  · rw [if_neg h]
    rw [if_neg (by lia)] at hq
    rw [Int.toNat_natCast]
    exact wpAny_bind (wpAny_mkInt (wpAny_pure ⟨_, rfl, hq⟩))

/-! #### how often -/
theorem occ_eq (b : Array UInt8) (x : UInt8) : occ b x = b.toList.count x := by
  unfold occ Builtin.Bytes.occurrences
  rw [List.length_reverse]
  show (((List.range (b.size + 1 - (0 + 1))).map (· + 0)).foldl _ ([], 0)).1.length = _
  have hr : b.size + 1 - (0 + 1) = b.size := by lia
  rw [hr]
  have key : ∀ n, n ≤ b.size → (((List.range n).map (· + 0)).foldl (fun (acc : List Nat × Nat) (i : Nat) => if (decide (i ≥ acc.2) && b.extract i (i + 1) == #[x]) = true then (i :: acc.1, i + 1) else acc) ([], 0)).2 ≤ n ∧
      (((List.range n).map (· + 0)).foldl (fun (acc : List Nat × Nat) (i : Nat) => if (decide (i ≥ acc.2) && b.extract i (i + 1) == #[x]) = true then (i :: acc.1, i + 1) else acc) ([], 0)).1.length = (b.toList.take n).count x := by
    intro n
    induction n with
    | zero => intro _; exact ⟨Nat.le_refl _, by simp⟩
    | succ n ih =>
      intro hn
      obtain ⟨h1, h2⟩ := ih (by lia)
      rw [List.range_succ, List.map_append, List.foldl_append]
      generalize ((List.range n).map (· + 0)).foldl (fun (acc : List Nat × Nat) (i : Nat) => if (decide (i ≥ acc.2) && b.extract i (i + 1) == #[x]) = true then (i :: acc.1, i + 1) else acc) ([], 0) = acc at h1 h2
      have hb : n < b.toList.length := by rw [Array.length_toList]; lia
      have hcut : b.extract n (n + 1) = #[b[n]'(by lia)] := by
        apply Array.ext'
        rw [Array.toList_extract]
        have e1 := List.drop_eq_getElem_cons hb
        have e2 : n + 1 - n = 1 := by lia
        simp only [List.extract_eq_take_drop, e2, e1, List.take_succ_cons, List.take_zero]
        rfl
      have ht : b.toList.take (n + 1) = b.toList.take n ++ [b[n]'(by lia)] := by
        rw [List.take_add_one, List.getElem?_eq_getElem hb]
        rfl
      show (if (decide (n + 0 ≥ acc.2) && b.extract (n + 0) (n + 0 + 1) == #[x]) = true then ((n + 0) :: acc.1, n + 0 + 1) else acc).2 ≤ n + 1 ∧ (if (decide (n + 0 ≥ acc.2) && b.extract (n + 0) (n + 0 + 1) == #[x]) = true then ((n + 0) :: acc.1, n + 0 + 1) else acc).1.length = _
      rw [Nat.add_zero, hcut, decide_eq_true h1, Bool.true_and, ht, List.count_append]
      by_cases hx : b[n]'(by lia) = x
      · have e : ((#[b[n]'(by lia)] : Array UInt8) == #[x]) = true := by rw [hx]; simp
        rw [if_pos e]
        exact ⟨Nat.le_refl _, by simp [h2, hx]⟩
      · have e : ¬ ((#[b[n]'(by lia)] : Array UInt8) == #[x]) = true := by simpa using hx
        rw [if_neg e]
        exact ⟨by lia, by simp [h2, hx]⟩
  have := (key b.size (Nat.le_refl _)).2
  rw [List.take_of_length_le (by simp)] at this
  exact this
theorem vl_count {prog : Program} {w : World} {K : PM} {r : Nat} {X : XS} {hh : Heap} {va vb : Value} {b : Array UInt8} {x : UInt8} (ha : ∃ t, va = .bytes b t) (hb : ∃ t, vb = .bytes #[x] t) :
    Vl prog w K r X hh (call (.builtin "bytes.count") [va, vb]) (fun v _ => ∃ t, v = .int (b.toList.count x : Nat) t) := by
  obtain ⟨t, rfl⟩ := ha; obtain ⟨u, rfl⟩ := hb
  intro A s Q E R e kK hX c
  have hval : (if (b.size : Int) < 1 then 0 else (occ b x : Int)) = ((b.toList.count x : Nat) : Int) := by
    by_cases h : (b.size : Int) < 1
    · rw [if_pos h]
      have : b = #[] := Array.size_eq_zero_iff.mp (by lia)
      subst this; rfl
    · rw [if_neg h, occ_eq]
  have g := gives_count b x t u
  rw [hval] at g
  exact call_gives slot_bytes_count (typeIs_bytes s b t) entry_bytes_count (args_bytes_count _ _) g (c _ s.heap _ (fun _ _ q => q) ⟨_, rfl⟩)
end Mine

namespace Mine
open PySem PySem.Calls PySem.W

/-! ### b''.join -/
theorem slot_bytes_join : Slot "bytes" "join" "bytes.join" :=
  .of (owner := "bytes") (n := "join") (by rw [typeLookup_type, builtinLookup_eq_fast]; kernel_rfl) (by decide +kernel) (by decide +kernel) (by decide +kernel)
    (by first | exact .inl (by decide +kernel) | exact .inr (by decide +kernel)) (by rw [isSubtype_type]; kernel_rfl)
theorem entry_bytes_join : entryFor table "bytes.join" = some Builtin.«bytes.join» := entryFor_of_tree (by kernel_rfl)
theorem args_bytes_join (a b : Value) : argsOk "bytes.join" ⟨[a, b], []⟩ := by
  unfold argsOk; rw [signature?_of (id := "bytes.join") (n := ['n', 'i', 'o', 'j']) (o := ['s', 'e', 't', 'y', 'b']) (by kernel_rfl) FB.owner_bytes]; kernel_rfl
theorem take_eq {id : String} (b : Array UInt8) (t : Tok) : Builtin.Bytes.takeBufferQuiet? id (.bytes b t) 0 = pure (some (b, none)) := by
  have e : Builtin.Bytes.takeBuffer? id (.bytes b t) 0 = pure (some (b, none)) := by
    unfold Builtin.Bytes.takeBuffer?
    rw [KBy.special_eq KBy.look_buffer, KBy.own_buffer]
    show (Builtin.Bytes.buffer? _ _ _ >>= fun r => _) = _
    have : ∀ f, Builtin.Bytes.buffer? id (.bytes b t) f = pure (some b) := by
      intro f
      unfold Builtin.Bytes.buffer?
      rw [KBy.special_eq KBy.look_buffer, KBy.own_buffer, KBy.own_release]
      kernel_rfl
    rw [this]
    rfl
  unfold Builtin.Bytes.takeBufferQuiet?
  rw [e]
  rfl

theorem joined_eq (parts : List (Array UInt8)) : Builtin.Bytes.joined #[] parts = parts.foldl (· ++ ·) #[] := by
  unfold Builtin.Bytes.joined
  have key : ∀ (k : Nat) (acc : Array UInt8), (parts.zipIdx k).foldl (fun out (p, i) => (if i > 0 then out ++ #[] else out) ++ p) acc = parts.foldl (· ++ ·) acc := by
    induction parts with
    | nil => intro k acc; rfl
    | cons p ps ih =>
      intro k acc
      rw [List.zipIdx_cons, List.foldl_cons, List.foldl_cons, ih]
      congr 1
      by_cases hk : k > 0 <;> simp [hk]
  exact key 0 #[]
theorem joinLetGo_none {M : Model} {A : Around} {E : Value → Shared → Prop} {s : Shared} {Q : Unit → Shared → Prop} (h : Q () s) : ∀ (vs : List Value) (keep : List Value), wpAny M A (Builtin.Bytes.joinLetGo (vs.map fun v => (v, none)) keep) Q E s
  | [], keep => wpAny_pure h
  | v :: vs, keep => by
    show wpAny M A (letGo [v] _ >>= fun _ => Builtin.Bytes.joinLetGo (vs.map fun v => (v, none)) keep) Q E s
    exact wpAny_bind (wpAny_letGo (joinLetGo_none h vs keep))
theorem foldl_size (parts : List (Array UInt8)) : ∀ (acc : Array UInt8), (parts.foldl (· ++ ·) acc).size = parts.foldl (fun a p => a + p.size) acc.size := by
  induction parts with
  | nil => intro acc; rfl
  | cons p ps ih => intro acc; rw [List.foldl_cons, List.foldl_cons, ih, Array.size_append]

theorem join_bytes {prog : Program} {w : World} {A : Around} {E : Value → Shared → Prop} {s : Shared} {l : Addr} {o : Obj} {vs : Array Value} {n : Nat} {parts : List (Array UInt8)} {t : Tok} {Q : Value → Shared → Prop} (ho : s.heap.get? l = some o) (hcls : o.cls = .type "list") (hd : o.data = .seq vs n)
    (hv : All2 (fun (b : Array UInt8) v => ∃ t, v = .bytes b t) parts vs.toList) (hsz : (parts.foldl (· ++ ·) #[]).size ≤ 16777216)
    (h : ∀ t' k, Q (.bytes (parts.foldl (· ++ ·) #[]) t') { s with toks := k }) : wpAny (model prog w) A (call (.builtin "bytes.join") [.bytes #[] t, .ref l]) Q E s := by
  have hlen : parts.length = vs.size := by rw [hv.length, Array.length_toList]
  refine wpAny_call_entry slot_bytes_join (typeIs_bytes s #[] t) entry_bytes_join ?_ (args_bytes_join _ _)
  show wpAny _ _ (Builtin.Bytes.joinItems (.ref l) >>= fun seq => _) _ E s
  refine wpAny_bind ?_
  unfold Builtin.Bytes.joinItems
  refine wpAny_bind (wpAny_typeOf ⟨_, ho, hcls⟩ ?_)
  show wpAny _ _ (pure (Value.ref l)) _ E s
  refine wpAny_pure ?_
  refine wpAny_bind (wpAny_seqItems ho hd ?_)
  show wpAny _ _ (if (Builtin.Bytes.Kind.bytes == Builtin.Bytes.Kind.bytes) = true then _ else _) _ E s
  rw [if_pos (show (Builtin.Bytes.Kind.bytes == Builtin.Bytes.Kind.bytes) = true from rfl)]
  have vat : ∀ i (hi : i < vs.size), ∃ b t, parts[i]? = some b ∧ vs.getD i .none = .bytes b t ∧ vs.toList[i]? = some (.bytes b t) := fun i hi => by
    have hp : parts[i]? = some (parts[i]'(by lia)) := List.getElem?_eq_getElem (by lia)
    obtain ⟨u, hu, tt, e⟩ := hv.at hp
    refine ⟨_, tt, hp, ?_, by rw [← e]; exact hu⟩
    rw [← e]
    rw [Array.getD_eq_getD_getElem?, ← Array.getElem?_toList, hu]
    rfl
  obtain ⟨vl⟩ := vs
  rcases vl with _ | ⟨x, _ | ⟨y, r⟩⟩
  rotate_left
  · obtain ⟨b, tt, hp, hx, _⟩ := vat 0 (by simp)
    have hx' : x = .bytes b tt := hx
    subst hx'
    have hparts : parts = [b] := by
      match parts, hlen, hp with
      | [c], _, hp => simpa using hp
    subst hparts
    refine wpAny_bind (wpAny_typeOf (typeIs_bytes s b tt) ?_)
    rw [if_pos (by rfl)]
    refine wpAny_bind (wpAny_rule (wpAny_pure ⟨_, rfl, ?_⟩))
    have := h tt s.toks
    have e : ([b].foldl (fun a c : Array UInt8 => a ++ c) #[]) = b := by simp
    rw [e] at this
    exact this
  · refine wpAny_bind ?_
    generalize ({ toList := x :: y :: r } : Array Value) = vs at *
    rw [Std.Legacy.Range.forIn_eq_forIn_range']
    refine wpAny_forIn_list (β := Array (Array UInt8) × List (Value × Option Value)) _ (fun rest b s' => s' = s ∧ ∃ k, k + rest.length = vs.size ∧ rest = List.range' k (vs.size - k) ∧ b = ((parts.take k).toArray, (vs.toList.take k).map fun v => (v, none))) _ ?_ ?_ _ _ ?_
    · rintro i rest ⟨pp, tk⟩ s' ⟨rfl, k, hk, hr, hb⟩
      simp only [List.length_cons] at hk
      obtain ⟨rfl, hr2⟩ : i = k ∧ rest = List.range' (k + 1) (vs.size - (k + 1)) := by
        have e : vs.size - k = (vs.size - (k + 1)) + 1 := by lia
        rw [e, List.range'_succ] at hr
        injection hr with h1 h2
        exact ⟨h1, h2⟩
      obtain ⟨b, tt, hp, hx, hx2⟩ := vat i (by lia)
      cases hb
      refine wpAny_bind (wpAny_seqItems ho hd ?_)
      have hany : ((vs.toList.take i).map fun v => ((v, none) : Value × Option Value)).any (fun x => x.1.onHeap) = false := by
        rw [List.any_map, List.any_eq_false]
        intro v hv2
        obtain ⟨j, hj, e⟩ := List.mem_take_iff_getElem.mp hv2
        obtain ⟨b2, t2, _, _, e2⟩ := vat j (by rw [Array.length_toList] at hj; lia)
        rw [List.getElem?_eq_getElem (by lia)] at e2
        have : v = .bytes b2 t2 := by rw [← e]; exact Option.some.inj e2
        subst this
        simp [Value.onHeap]
      show wpAny _ _ (if ((Builtin.Bytes.Kind.bytes == Builtin.Bytes.Kind.bytearray) || ((vs.toList.take i).map fun v => ((v, none) : Value × Option Value)).any (fun x => x.1.onHeap)) = true then _ else _) _ _ _
      rw [hany, if_neg (by simp [show (Builtin.Bytes.Kind.bytes == Builtin.Bytes.Kind.bytearray) = false from rfl]), hx]
      refine wpAny_bind (wpAny_holding (wpAny_of_eq (take_eq b tt) ?_))
      refine wpAny_bind (wpAny_seqItems ho hd ?_)
      show wpAny _ _ (if (vs.size != vs.size) = true then _ else _) _ _ _
      rw [if_neg (by simp)]
      refine wpAny_pure ⟨rfl, i + 1, by lia, hr2, ?_⟩
      rw [List.take_add_one, hp, List.take_add_one, hx2]
      simp
    · rintro ⟨pp, tk⟩ s' ⟨rfl, k, hk, hr, hb⟩
      simp only [List.length_nil, Nat.add_zero] at hk
      subst hk
      cases hb
      rw [List.take_of_length_le (by lia), List.take_of_length_le (by rw [Array.length_toList]; exact Nat.le_refl _)]
      show wpAny _ _ (Builtin.Bytes.payload (.bytes #[] t) >>= fun sep => _) _ _ _
      refine wpAny_bind (wpAny_of_eq (a := #[]) rfl ?_)
      have hz : Builtin.Bytes.tooLong (parts.toArray.foldl (fun a p => a + p.size) (0 * (parts.toArray.size - 1))) = false := by
        refine KBy.tooLong_not ?_
        rw [Nat.zero_mul, List.foldl_toArray]
        have := foldl_size parts #[]
        rw [show (#[] : Array UInt8).size = 0 from rfl] at this
        lia
      show wpAny _ _ (if Builtin.Bytes.tooLong (parts.toArray.foldl (fun a p => a + p.size) (0 * (parts.toArray.size - 1))) = true then _ else _) _ _ _
      rw [hz, if_neg Bool.false_ne_true]
      rw [show parts.toArray.toList = parts from rfl, joined_eq]
      refine wpAny_bind (wpAny_mkBytes ?_ (by rw [sizeLine_eq]; exact hsz))
      refine wpAny_bind (wpAny_holding (wpAny_point ?_))
      refine wpAny_bind (joinLetGo_none ?_ _ _)
      exact wpAny_pure ⟨_, rfl, h _ _⟩
    · refine ⟨rfl, 0, ?_, ?_, ?_⟩
      · simp
      · simp
      · simp
  · refine wpAny_bind ?_
    generalize ({ toList := [] } : Array Value) = vs at *
    rw [Std.Legacy.Range.forIn_eq_forIn_range']
    refine wpAny_forIn_list (β := Array (Array UInt8) × List (Value × Option Value)) _ (fun rest b s' => s' = s ∧ ∃ k, k + rest.length = vs.size ∧ rest = List.range' k (vs.size - k) ∧ b = ((parts.take k).toArray, (vs.toList.take k).map fun v => (v, none))) _ ?_ ?_ _ _ ?_
    · rintro i rest ⟨pp, tk⟩ s' ⟨rfl, k, hk, hr, hb⟩
      simp only [List.length_cons] at hk
      obtain ⟨rfl, hr2⟩ : i = k ∧ rest = List.range' (k + 1) (vs.size - (k + 1)) := by
        have e : vs.size - k = (vs.size - (k + 1)) + 1 := by lia
        rw [e, List.range'_succ] at hr
        injection hr with h1 h2
        exact ⟨h1, h2⟩
      obtain ⟨b, tt, hp, hx, hx2⟩ := vat i (by lia)
      cases hb
      refine wpAny_bind (wpAny_seqItems ho hd ?_)
      have hany : ((vs.toList.take i).map fun v => ((v, none) : Value × Option Value)).any (fun x => x.1.onHeap) = false := by
        rw [List.any_map, List.any_eq_false]
        intro v hv2
        obtain ⟨j, hj, e⟩ := List.mem_take_iff_getElem.mp hv2
        obtain ⟨b2, t2, _, _, e2⟩ := vat j (by rw [Array.length_toList] at hj; lia)
        rw [List.getElem?_eq_getElem (by lia)] at e2
        have : v = .bytes b2 t2 := by rw [← e]; exact Option.some.inj e2
        subst this
        simp [Value.onHeap]
      show wpAny _ _ (if ((Builtin.Bytes.Kind.bytes == Builtin.Bytes.Kind.bytearray) || ((vs.toList.take i).map fun v => ((v, none) : Value × Option Value)).any (fun x => x.1.onHeap)) = true then _ else _) _ _ _
      rw [hany, if_neg (by simp [show (Builtin.Bytes.Kind.bytes == Builtin.Bytes.Kind.bytearray) = false from rfl]), hx]
      refine wpAny_bind (wpAny_holding (wpAny_of_eq (take_eq b tt) ?_))
      refine wpAny_bind (wpAny_seqItems ho hd ?_)
      show wpAny _ _ (if (vs.size != vs.size) = true then _ else _) _ _ _
      rw [if_neg (by simp)]
      refine wpAny_pure ⟨rfl, i + 1, by lia, hr2, ?_⟩
      rw [List.take_add_one, hp, List.take_add_one, hx2]
      simp
    · rintro ⟨pp, tk⟩ s' ⟨rfl, k, hk, hr, hb⟩
      simp only [List.length_nil, Nat.add_zero] at hk
      subst hk
      cases hb
      rw [List.take_of_length_le (by lia), List.take_of_length_le (by rw [Array.length_toList]; exact Nat.le_refl _)]
      show wpAny _ _ (Builtin.Bytes.payload (.bytes #[] t) >>= fun sep => _) _ _ _
      refine wpAny_bind (wpAny_of_eq (a := #[]) rfl ?_)
      have hz : Builtin.Bytes.tooLong (parts.toArray.foldl (fun a p => a + p.size) (0 * (parts.toArray.size - 1))) = false := by
        refine KBy.tooLong_not ?_
        rw [Nat.zero_mul, List.foldl_toArray]
        have := foldl_size parts #[]
        rw [show (#[] : Array UInt8).size = 0 from rfl] at this
        lia
      show wpAny _ _ (if Builtin.Bytes.tooLong (parts.toArray.foldl (fun a p => a + p.size) (0 * (parts.toArray.size - 1))) = true then _ else _) _ _ _
      rw [hz, if_neg Bool.false_ne_true]
      rw [show parts.toArray.toList = parts from rfl, joined_eq]
      refine wpAny_bind (wpAny_mkBytes ?_ (by rw [sizeLine_eq]; exact hsz))
      refine wpAny_bind (wpAny_holding (wpAny_point ?_))
      refine wpAny_bind (joinLetGo_none ?_ _ _)
      exact wpAny_pure ⟨_, rfl, h _ _⟩
    · refine ⟨rfl, 0, ?_, ?_, ?_⟩
      · simp
      · simp
      · simp
end Mine

namespace Mine
open PySem PySem.Calls PySem.W

/-! ### re.Pattern.sub -/
theorem plainAttrs_pat : PlainAttrs "re.Pattern" :=
  ⟨⟨"object.__getattribute__", by rw [typeLookup_type, builtinLookup_eq_fast]; kernel_rfl, by decide +kernel⟩, by rw [typeLookup_type, builtinLookup_eq_fast]; kernel_rfl⟩
theorem slot_pat_sub : Slot "re.Pattern" "sub" "re.Pattern.sub" :=
  .of (owner := "re.Pattern") (n := "sub") (by rw [typeLookup_type, builtinLookup_eq_fast]; kernel_rfl) (by decide +kernel) (by decide +kernel) (by decide +kernel)
    (by first | exact .inl (by decide +kernel) | exact .inr (by decide +kernel)) (by rw [isSubtype_type]; kernel_rfl)
theorem type_pat_sub : typeOf (.builtin "re.Pattern.sub") = pure (.type "method_descriptor") := by show builtinType _ = _; rw [builtinType_eq_fast]; kernel_rfl
theorem entry_pat_sub : entryFor table "re.Pattern.sub" = some Builtin.«re.Pattern.sub» := entryFor_of_tree (by kernel_rfl)
theorem entry_pat_loop : entryFor table "re.Pattern.sub.loop" = some Builtin.«re.Pattern.sub.loop» := entryFor_of_tree (by kernel_rfl)
theorem owner_pat : Manifest.owners.lookup (String.ofList ['n', 'r', 'e', 't', 't', 'a', 'P', '.', 'e', 'r'].reverse) = some Manifest.sig_re_Pattern := by kernel_rfl
theorem args_pat_sub (a b c : Value) : argsOk "re.Pattern.sub" ⟨[a, b, c], []⟩ := by
  unfold argsOk; rw [signature?_of (id := "re.Pattern.sub") (n := ['b', 'u', 's']) (o := ['n', 'r', 'e', 't', 't', 'a', 'P', '.', 'e', 'r']) (by kernel_rfl) owner_pat]; kernel_rfl

/-- the pattern's object -/
structure PatK (K : PM) (a : Addr) : Prop where
  at_ : ∃ (fs : Array Value) (T : Addr) (ws : Array Value) (n : Nat), K a = some { cls := .type "re.Pattern", data := .fields fs } ∧ fs.getD 5 .none = .ref T ∧ Builtin.Re.reRawNat (fs.getD 2 .none) = 0 ∧ Builtin.Re.reRawNat (fs.getD 6 .none) = 1 ∧
    K T = some { cls := .type "tuple", data := .seq ws n } ∧ (ws.map Builtin.Re.reRawOf).map (·.toNat) = pat
noncomputable def targ (a : Addr) (b : Array UInt8) (u : Tok) : Builtin.Re.ReTarget := { pattern := .ref a, string := .bytes b u, code := pat, text := b.map (·.toNat), kind := 1, groups := 0, pos := 0, lim := (b.map (·.toNat)).size }
theorem look_call : typeLookup (.type "bytes") "__call__" = pure none := by rw [typeLookup_type, builtinLookup_eq_fast]; kernel_rfl
section
variable {prog : Program} {w : World} {A : Around} {E : Value → Shared → Prop} {s : Shared} {K : PM} {a : Addr} {b : Array UInt8} {t u : Tok}
theorem textOf_eq : Builtin.Re.reTextOf (.bytes b u) = pure (b.map (·.toNat), 1) := by
  unfold Builtin.Re.reTextOf
  show (Builtin.Bytes.bufferQuiet? "_sre" (.bytes b u) >>= fun r => _) = _
  rw [KBy.quiet_eq]
  rfl
theorem target_of {M : Model} {A : Around} {Q : Builtin.Re.ReTarget → Shared → Prop} (P : PatK K a) (kK : Sub K s.heap) (h : Q (targ a b u) s) : wpAny M A (Builtin.Re.reWholeTarget (.ref a) (.bytes b u)) Q E s := by
  obtain ⟨fs, T, ws, n, h1, h2, h3, h4, h5, h6⟩ := P.at_
  unfold Builtin.Re.reWholeTarget
  refine wpAny_bind (wpAny_fieldsOf (kK _ _ h1) rfl ?_)
  refine wpAny_bind (wpAny_of_eq textOf_eq ?_)
  show wpAny M A (if ((Builtin.Re.reRawNat (fs.getD 6 .none) == 0) && ((1 : Nat) == 1)) = true then _ else _) _ _ _
  rw [h4, if_neg (by decide)]
  show wpAny M A (if (((1 : Nat) == 1) && ((1 : Nat) == 0)) = true then _ else _) _ _ _
  rw [if_neg (by decide)]
  have hcol : Builtin.Re.reNoCollectionInside (.bytes b u) 1 = pure () := by
    unfold Builtin.Re.reNoCollectionInside
    rw [KBy.isInstance_eq]
    rfl
  refine wpAny_bind (wpAny_of_eq hcol ?_)
  show wpAny M A (Builtin.Re.reRawItems (fs.getD 5 .none) >>= fun r => _) _ _ _
  rw [h2]
  unfold Builtin.Re.reRawItems
  refine wpAny_bind (wpAny_bind (wpAny_seqItems (kK _ _ h5) rfl (wpAny_pure ?_)))
  refine wpAny_pure ?_
  have e : targ a b u = { pattern := .ref a, string := .bytes b u, code := (ws.map Builtin.Re.reRawOf).map (·.toNat), text := b.map (·.toNat), kind := 1, groups := Builtin.Re.reRawNat (fs.getD 2 .none), pos := 0, lim := (b.map (·.toNat)).size } := by
    rw [h6, h3]; rfl
  rw [e] at h
  exact h
end
end Mine

namespace Mine
open PySem PySem.Calls PySem.W

section
open PySem.Sre
theorem runFor_some {k : Nat} {m : M} (h : m.outcome.isSome = true) : M.runFor k m = m := by
  cases k with
  | zero => rfl
  | succ k => show (if m.outcome.isSome = true then m else _) = m; rw [if_pos h]
theorem runFor_all {n : Nat} : ∀ {k : Nat} {m m' : M}, To n m m' → m'.outcome.isSome = true → n ≤ k → M.runFor k m = m' := by
  induction n with
  | zero => intro k m m' h ho _; cases h; exact runFor_some ho
  | succ n ih =>
    intro k m m' h ho hk
    obtain ⟨k, rfl⟩ : ∃ j, k = j + 1 := ⟨k - 1, by lia⟩
    show (if m.outcome.isSome = true then m else M.runFor k m.step) = m'
    rw [h.1, if_neg (by simp)]
    exact ih h.2 ho (by lia)
theorem runFor_part : ∀ {k r : Nat} {m m' : M}, To (k + r) m m' → To r (M.runFor k m) m' := by
  intro k
  induction k with
  | zero => intro r m m' h; rw [Nat.zero_add] at h; exact h
  | succ k ih =>
    intro r m m' h
    rw [Nat.succ_add] at h
    show To r (if m.outcome.isSome = true then m else M.runFor k m.step) m'
    rw [h.1, if_neg (by simp)]
    exact ih h.2
theorem drive {M₀ : Model} {A : Around} {E : Value → Shared → Prop} {s : Shared} {Q : M → Shared → Prop} : ∀ (n : Nat) {m m' : M}, To n m m' → m'.outcome.isSome = true → ∀ turns, n < turns → Q m' s → wpAny M₀ A (Builtin.Re.reDrive turns m) Q E s := by
  intro n
  induction n using Nat.strongRecOn with
  | ind n ih =>
    intro m m' h ho turns ht hq
    obtain ⟨turns, rfl⟩ : ∃ j, turns = j + 1 := ⟨turns - 1, by lia⟩
    show wpAny M₀ A (if (M.runFor 4 m).outcome.isSome = true then pure (M.runFor 4 m) else _) Q E s
    by_cases hn : n ≤ 4
    · rw [runFor_all h ho hn, if_pos ho]
      exact wpAny_pure hq
    · obtain ⟨r, rfl⟩ : ∃ r, n = 4 + (r + 1) := ⟨n - 5, by lia⟩
      have h2 := runFor_part h
      rw [h2.1, if_neg (by simp)]
      exact wpAny_bind (wpAny_rule (ih (r + 1) (by lia) h2 ho turns (by lia) hq))
theorem to_end {M₀ : Model} {A : Around} {E : Value → Shared → Prop} {s : Shared} {Q : Option M → Shared → Prop} {n : Nat} {m m' : M} (h : To n m m') (hn : n < 2 ^ 64) {o : Sre.Outcome} (ho : m'.outcome = some o) (hq : match o with | .matched => Q (some m') s | .failed => Q none s | .stuck _ => False) :
    wpAny M₀ A (Builtin.Re.reRunToEnd m) Q E s := by
  unfold Builtin.Re.reRunToEnd
  refine wpAny_bind (drive n h (by rw [ho]; rfl) _ hn ?_)
  refine wpAny_bind ?_
  refine wpAny_forIn_list (β := PUnit) _ (fun _ _ s' => s' = s) _ ?_ ?_ _ _ rfl
  · rintro i rest b s' rfl
    show wpAny M₀ A (if m'.seen.has i = true then _ else _) _ E _
    split
    · exact wpAny_bind (wpAny_rule (wpAny_pure rfl))
    · exact wpAny_pure rfl
  · rintro b s' rfl
    rw [ho]
    cases o with
    | matched => exact wpAny_pure hq
    | failed => exact wpAny_pure hq
    | stuck w => exact hq.elim

/-! #### the search over a text -/
/-- no quotation mark from s on -/
theorem search_none {t : Array Nat} : ∀ (d s : Nat) (first must : Bool) (seen : Sre.Seen), s + d = t.size → (∀ i, s ≤ i → i < t.size → t.getD i 0 ≠ 34) → ∃ m, To (2 * d + 3) (at9 t s first must seen) m ∧ m.outcome = some .failed := by
  intro d
  induction d with
  | zero => intro s first must seen hs _; rw [Nat.add_zero] at hs; subst hs; exact m_over
  | succ d ih =>
    intro s first must seen hs hno
    obtain ⟨s1, h1⟩ := m_next (t := t) (first := first) (must := must) (seen := seen) (s := s) (by lia) (hno s (Nat.le_refl _) (by lia))
    obtain ⟨m, h2, h3⟩ := ih (s + 1) false false s1 (by lia) (fun i hi hl => hno i (by lia) hl)
    refine ⟨m, ?_, h3⟩
    have := h1.trans h2
    rw [show 2 + (2 * d + 3) = 2 * (d + 1) + 3 by lia] at this
    exact this
/-- characters within a quotation -/
theorem chars_in {t : Array Nat} {s : Nat} {first must : Bool} : ∀ (j q : Nat) (count : Int) (seen : Sre.Seen), 0 ≤ count → q + j < t.size → (∀ i, q ≤ i → i < q + j → t.getD i 0 ≠ 34 ∧ t.getD i 0 ≠ 92) →
    ∃ seen' count', 0 ≤ count' ∧ To (6 * j) (in15 t s q first must count seen) (in15 t s (q + j) first must count' seen') := by
  intro j
  induction j with
  | zero => intro q count seen hc _ _; exact ⟨seen, count, hc, rfl⟩
  | succ j ih =>
    intro q count seen hc hq hno
    obtain ⟨n1, n2⟩ := hno q (Nat.le_refl _) (by lia)
    obtain ⟨s1, h1⟩ := m_char (t := t) (s := s) (first := first) (must := must) (seen := seen) (q := q) hc (by lia) n1 n2
    obtain ⟨s2, c2, hc2, h2⟩ := ih (q + 1) (count + 1) s1 (by lia) (by lia) (fun i hi hl => hno i (by lia) (by lia))
    refine ⟨s2, c2, hc2, ?_⟩
    have := h1.trans h2
    rw [show 6 + 6 * j = 6 * (j + 1) by lia, show q + 1 + j = q + (j + 1) by lia] at this
    exact this
/-- the first quotation from s on -/
theorem search_found {t : Array Nat} {p j : Nat} (hp : p + j + 1 < t.size) (h1 : t.getD p 0 = 34) (h2 : ∀ i, p + 1 ≤ i → i < p + 1 + j → t.getD i 0 ≠ 34 ∧ t.getD i 0 ≠ 92) (h3 : t.getD (p + 1 + j) 0 = 34) :
    ∀ (d s : Nat) (first must : Bool) (seen : Sre.Seen), s + d = p → (∀ i, s ≤ i → i < p → t.getD i 0 ≠ 34) → ∃ m, To (2 * d + (2 + (6 * j + 10))) (at9 t s first must seen) m ∧ m.outcome = some .matched ∧ m.start = p ∧ m.handed = p + j + 2 := by
  intro d
  induction d with
  | zero =>
    intro s first must seen hs _
    rw [Nat.add_zero] at hs
    subst hs
    obtain ⟨s1, a1⟩ := m_quote (t := t) (first := first) (must := must) (seen := seen) (s := s) (by lia) h1
    obtain ⟨s2, c2, hc2, a2⟩ := chars_in (t := t) (s := s) (first := first) (must := must) j (s + 1) 0 s1 (Int.le_refl _) (by lia) h2
    obtain ⟨m, a3, o1, o2, o3⟩ := m_close (t := t) (s := s) (first := first) (must := must) (seen := s2) (q := s + 1 + j) hc2 (by lia) h3 (by lia)
    refine ⟨m, ?_, o1, o2, by rw [o3]; lia⟩
    have := a1.trans (a2.trans a3)
    rw [Nat.mul_zero, Nat.zero_add]
    exact this
  | succ d ih =>
    intro s first must seen hs hno
    obtain ⟨s1, a1⟩ := m_next (t := t) (first := first) (must := must) (seen := seen) (s := s) (by lia) (hno s (Nat.le_refl _) (by lia))
    obtain ⟨m, a2, a3⟩ := ih (s + 1) false false s1 (by lia) (fun i hi hl => hno i (by lia) hl)
    refine ⟨m, ?_, a3⟩
    have := a1.trans a2
    rw [show 2 + (2 * d + (2 + (6 * j + 10))) = 2 * (d + 1) + (2 + (6 * j + 10)) by lia] at this
    exact this
theorem forSearch_eq {t : Array Nat} {s : Nat} {must : Bool} (h : s + 2 ≤ t.size) : ∃ seen, forSearch pat t 0 s t.size must = at9 t s true must seen := by
  refine ⟨({} : Sre.Seen).add 14, ?_⟩
  unfold forSearch
  show (if (decide (s > t.size) || decide (t.size - s < 2)) = true then _ else _) = _
  rw [if_neg (by simp; lia)]
  rfl
theorem forSearch_no {t : Array Nat} {s : Nat} {must : Bool} (h : t.size < s + 2) : ∃ m, To 1 (forSearch pat t 0 s t.size must) m ∧ m.outcome = some .failed := by
  unfold forSearch
  show ∃ m, To 1 (if (decide (s > t.size) || decide (t.size - s < 2)) = true then _ else _) m ∧ _
  rw [if_pos (by simp; lia)]
  exact ⟨_, To.one rfl (step_end rfl rfl rfl), rfl⟩
end
end Mine

namespace Mine
open PySem PySem.Calls PySem.W

/-! ### the pattern's sub -/
noncomputable def enc : List (List UInt8 × List UInt8) → List UInt8 → List UInt8
  | [], tail => tail
  | (p, q) :: gs, tail => p ++ 34 :: (q ++ 34 :: enc gs tail)
noncomputable def plain : List (List UInt8 × List UInt8) → List UInt8 → List UInt8
  | [], tail => tail
  | (p, _) :: gs, tail => p ++ plain gs tail
noncomputable def EncOk (gs : List (List UInt8 × List UInt8)) (tail : List UInt8) : Prop := (∀ g ∈ gs, (∀ c ∈ g.1, c ≠ 34) ∧ ∀ c ∈ g.2, c ≠ 34 ∧ c ≠ 92) ∧ ∀ c ∈ tail, c ≠ 34
theorem slice_eq (b : Array UInt8) (i j : Nat) : ((b.map (·.toNat)).extract i j).map (·.toUInt8) = b.extract i j := by
  apply Array.ext'
  simp only [Array.toList_map, Array.toList_extract, List.extract_eq_take_drop, ← List.map_drop, ← List.map_take, List.map_map]
  have : ((fun x : Nat => x.toUInt8) ∘ fun x : UInt8 => x.toNat) = id := by funext x; simp
  rw [this, List.map_id]
theorem getD_map (b : Array UInt8) (i : Nat) (h : i < b.size) : (b.map (·.toNat)).getD i 0 = (b[i]'h).toNat := by
  simp [Array.getD, h]

section
variable {prog : Program} {w : World} {A : Around} {s : Shared} {K : PM} {a L : Addr} {b : Array UInt8} {t u : Tok}
noncomputable def loopArgs (a L : Addr) (b : Array UInt8) (t u : Tok) (n : Int) (pos : Nat) : Args := ⟨[.ref a, .bytes b u, .bytes #[] t, rawInt 0, rawInt 0, rawInt n, rawInt pos, rawInt pos, .bool false, .ref L, .bool false], []⟩
theorem plain_pat_loop : plainId "re.Pattern.sub.loop" = true := by decide +kernel

theorem slice_wp {M : Model} {A : Around} {E : Value → Shared → Prop} {s : Shared} {i j : Nat} {Q : Value → Shared → Prop} (hb : b.size ≤ 100000) (h : ∀ t k, Q (.bytes (b.extract i j) t) { s with toks := k }) : wpAny M A (Builtin.Re.reSlice (b.map (·.toNat)) 1 i j) Q E s := by
  show wpAny M A (mkBytes (((b.map (·.toNat)).extract i j).map (·.toUInt8))) Q E s
  rw [slice_eq]
  refine wpAny_mkBytes (h _ _) ?_
  rw [sizeLine_eq, Array.size_extract]
  lia
theorem foldl_push (parts : List (Array UInt8)) (x : Array UInt8) : (parts ++ [x]).foldl (· ++ ·) #[] = parts.foldl (· ++ ·) #[] ++ x := by rw [List.foldl_append]; rfl
/-- the join at the end -/
theorem loop_join {parts : List (Array UInt8)} {o : Obj} {vs : Array Value} {nn : Nat} {F : Value → Sem Fin} {Φ : Fin → Shared → Prop} {E : Value → Shared → Prop} {A : Around} (ho : s.heap.get? L = some o) (hcls : o.cls = .type "list") (hd : o.data = .seq vs nn)
    (hv : All2 (fun (b : Array UInt8) v => ∃ t, v = .bytes b t) parts vs.toList) (hsz : (parts.foldl (· ++ ·) #[]).size ≤ 200000)
    (c : ∀ t' k, wpAny (model prog w) A (F (.bytes (parts.foldl (· ++ ·) #[]) t')) Φ E { s with toks := k }) :
    wpAny (model prog w) A (Builtin.Re.reSlice (b.map (·.toNat)) 1 0 0 >>= fun joiner => seqItems? (.ref L) >>= fun r => if (r.getD #[]).isEmpty = true then pure joiner >>= F else call (.builtin "bytes.join") [joiner, .ref L] >>= F) Φ E s := by
  have e0 : b.extract 0 0 = #[] := by simp
  refine wpAny_bind (show wpAny _ _ (mkBytes (((b.map (·.toNat)).extract 0 0).map (·.toUInt8))) _ _ _ from ?_)
  rw [slice_eq, e0]
  refine wpAny_mkBytes ?_ (by rw [sizeLine_eq]; simp)
  refine wpAny_bind (wpAny_seqItems (s := { s with toks := s.toks + 1 }) ho hd ?_)
  show wpAny _ _ (if vs.isEmpty = true then _ else _) _ _ _
  by_cases h : vs.isEmpty = true
  · rw [if_pos h]
    have h1 : vs = #[] := Array.isEmpty_iff.mp h
    subst h1
    have h2 : parts = [] := by
      cases parts with
      | nil => rfl
      | cons => exact hv.elim
    subst h2
    exact wpAny_bind (wpAny_pure (c _ _))
  · rw [if_neg h]
    exact wpAny_bind (join_bytes (s := { s with toks := s.toks + 1 }) ho hcls hd hv (by lia) fun t' k => c t' k)
theorem upd_get {h : Heap} {o : Obj} {vs : Array Value} {nn : Nat} {x : Value} (ho : h.get? L = some o) (hfr : o.isFreed = false) (hd : o.data = .seq vs nn) :
    ∃ o', (h.update L (Obj.mapSeq (·.push x))).get? L = some o' ∧ o'.cls = o.cls ∧ o'.isFreed = false ∧ o'.data = .seq (vs.push x) (nn + 1) := by
  obtain ⟨cl, di, da, sl⟩ := o
  cases hd
  refine ⟨⟨cl, di, .seq (vs.push x) (nn + 1), sl⟩, ?_, rfl, rfl, rfl⟩
  have e : Obj.mapSeq (·.push x) ⟨cl, di, .seq vs nn, sl⟩ = ⟨cl, di, .seq (vs.push x) (nn + 1), sl⟩ := by
    show (⟨cl, di, .seq (vs.push x) (if ((vs.push x).size == vs.size) = true then nn else nn + 1), sl⟩ : Obj) = _
    rw [if_neg (by simp)]
  rw [← e]
  exact Heap.get?_update_self _ ho (by rw [e]; rfl)

set_option maxHeartbeats 1000000 in
theorem loop_last {R : Result → Shared → Prop} {pos : Nat} {n : Int} {parts : List (Array UInt8)} {o : Obj} {vs : Array Value} {nn : Nat} (P : PatK K a) (kK : Sub K s.heap) (ho : s.heap.get? L = some o) (hcls : o.cls = .type "list") (hfr : o.isFreed = false) (hd : o.data = .seq vs nn)
    (hv : All2 (fun (b : Array UInt8) v => ∃ t, v = .bytes b t) parts vs.toList) (hvs : vs.size ≤ 100000) (hb : b.size ≤ 100000) (hpos : pos ≤ b.size) (hno : ∀ i (h : i < b.size), pos ≤ i → b[i]'h ≠ 34) (hsz : (parts.foldl (· ++ ·) #[]).size ≤ 100000)
    (c : ∀ h' t' k, (∀ b' o', b' ≠ L → s.heap.get? b' = some o' → h'.get? b' = some o') → R (.ok (.ret (.bytes (parts.foldl (· ++ ·) #[] ++ b.extract pos b.size) t'))) { s with heap := h', toks := k }) :
    codeAny (model prog w) A (.builtin "re.Pattern.sub.loop" (loopArgs a L b t u n pos)) R s := by
  refine codeAny_builtin entry_pat_loop ?_
  rw [Around.under_plainId plain_pat_loop _]
  show wpAny _ _ (Builtin.Re.reWholeTarget (.ref a) (.bytes b u) >>= fun t => _) _ _ s
  refine wpAny_bind (target_of P kK ?_)
  show wpAny _ _ (Builtin.Re.reLiteralCannotBeTurned (.bytes #[] t) >>= fun t => _) _ _ s
  have hlit : Builtin.Re.reLiteralCannotBeTurned (.bytes #[] t) = pure () := by
    unfold Builtin.Re.reLiteralCannotBeTurned
    show (isInstance (.bytes #[] t) (.type "bytes") >>= fun r => _) = _
    rw [KBy.isInstance_eq]
    rfl
  refine wpAny_bind (wpAny_of_eq hlit ?_)
  show wpAny _ _ (Builtin.Re.reNextFound (targ a b u) pos false >>= fun r => _) _ _ s
  have found : ∃ k m, To k (Sre.forSearch pat (b.map (·.toNat)) 0 pos (b.map (·.toNat)).size false) m ∧ k < 2 ^ 64 ∧ m.outcome = some .failed := by
    by_cases h2 : pos + 2 ≤ (b.map (·.toNat)).size
    · obtain ⟨seen, e⟩ := forSearch_eq (t := b.map (·.toNat)) (s := pos) (must := false) h2
      rw [e]
      obtain ⟨m, h3, h4⟩ := search_none (t := b.map (·.toNat)) (b.size - pos) pos true false seen (by simp; lia) (fun i hi hl => by
        have hl' : i < b.size := by simpa using hl
        rw [getD_map b i hl']
        intro z
        exact hno i hl' hi (UInt8.toNat_inj.mp z))
      exact ⟨_, m, h3, by lia, h4⟩
    · obtain ⟨m, h3, h4⟩ := forSearch_no (t := b.map (·.toNat)) (s := pos) (must := false) (by lia)
      exact ⟨1, m, h3, by decide, h4⟩
  obtain ⟨k, m, hT, hk, hm⟩ := found
  unfold Builtin.Re.reNextFound
  refine wpAny_bind (to_end hT hk hm ?_)
  show wpAny _ _ (if pos < (b.map (·.toNat)).size then _ else _) _ _ s
  by_cases hp : pos < b.size
  · rw [if_pos (by simpa using hp)]
    refine wpAny_bind (slice_wp hb fun t₁ k₁ => ?_)
    refine wpAny_bind (wpAny_updateSeq (s := { s with toks := k₁ }) ho hd ?_ (by rw [sizeLine_eq]; lia) (by rw [sizeLine_eq, Array.size_push]; lia))
    obtain ⟨o', g1, g2, g3, g4⟩ := upd_get (x := .bytes (b.extract pos (targ a b u).lim) t₁) ho hfr hd
    have hlim : (targ a b u).lim = b.size := by show (b.map (·.toNat)).size = _; simp
    refine loop_join (s := { s with heap := _, toks := k₁ }) (parts := parts ++ [b.extract pos (targ a b u).lim]) g1 (g2.trans hcls) g4 ?_ ?_ ?_
    · rw [Array.toList_push]
      exact hv.append ⟨⟨t₁, rfl⟩, trivial⟩
    · rw [foldl_push, Array.size_append, Array.size_extract]; lia
    · intro t' k
      refine wpAny_pure ?_
      rw [foldl_push, hlim]
      exact c _ t' k fun b' o' hb' e => (Heap.SameBut.update ..).extBut b' o' hb' e
  · rw [if_neg (by simpa using hp)]
    have e : parts.foldl (· ++ ·) #[] ++ b.extract pos b.size = parts.foldl (· ++ ·) #[] := by
      have : pos = b.size := by lia
      subst this; simp
    refine loop_join ho hcls hd hv (by lia) ?_
    intro t' k
    refine wpAny_pure ?_
    have := c s.heap t' k fun _ _ _ e => e
    rw [e] at this
    exact this
end
end Mine

namespace Mine
open PySem PySem.Calls PySem.W

section
variable {prog : Program} {w : World} {A : Around} {s : Shared} {K : PM} {a L : Addr} {b : Array UInt8} {t u : Tok}

theorem nat_ne {x : UInt8} {n : Nat} (h : x ≠ n.toUInt8) (hn : n < 256) : x.toNat ≠ n := by
  intro z
  apply h
  apply UInt8.toNat_inj.mp
  rw [z]
  simp [Nat.toUInt8, Nat.mod_eq_of_lt hn]

set_option maxHeartbeats 1000000 in
theorem loop_turn {R : Result → Shared → Prop} {pos q0 j : Nat} {n : Int} {parts : List (Array UInt8)} {o : Obj} {vs : Array Value} {nn : Nat} (P : PatK K a) (kK : Sub K s.heap) (ho : s.heap.get? L = some o) (hcls : o.cls = .type "list") (hfr : o.isFreed = false) (hd : o.data = .seq vs nn)
    (hv : All2 (fun (b : Array UInt8) v => ∃ t, v = .bytes b t) parts vs.toList) (hvs : vs.size ≤ 100000) (hb : b.size ≤ 100000) (hq : q0 + j + 1 < b.size) (hpq : pos ≤ q0)
    (h0 : ∀ i (h : i < b.size), pos ≤ i → i < q0 → b[i]'h ≠ 34) (h1 : b[q0]'(by lia) = 34) (h2 : ∀ i (h : i < b.size), q0 + 1 ≤ i → i < q0 + 1 + j → b[i]'h ≠ 34 ∧ b[i]'h ≠ 92) (h3 : b[q0 + 1 + j]'(by lia) = 34)
    (c : ∀ h' k o' vs' nn' parts', (∀ b' o', b' ≠ L → s.heap.get? b' = some o' → h'.get? b' = some o') → h'.get? L = some o' → o'.cls = .type "list" → o'.isFreed = false → o'.data = .seq vs' nn' → All2 (fun (b : Array UInt8) v => ∃ t, v = .bytes b t) parts' vs'.toList → vs'.size ≤ vs.size + 2 →
      parts'.foldl (· ++ ·) #[] = parts.foldl (· ++ ·) #[] ++ b.extract pos q0 → codeAny (model prog w) A (.builtin "re.Pattern.sub.loop" (loopArgs a L b t u (n + 1) (q0 + j + 2))) R { s with heap := h', toks := k }) :
    codeAny (model prog w) A (.builtin "re.Pattern.sub.loop" (loopArgs a L b t u n pos)) R s := by
  refine codeAny_builtin entry_pat_loop ?_
  rw [Around.under_plainId plain_pat_loop _]
  show wpAny _ _ (Builtin.Re.reWholeTarget (.ref a) (.bytes b u) >>= fun t => _) _ _ s
  refine wpAny_bind (target_of P kK ?_)
  show wpAny _ _ (Builtin.Re.reLiteralCannotBeTurned (.bytes #[] t) >>= fun t => _) _ _ s
  have hlit : Builtin.Re.reLiteralCannotBeTurned (.bytes #[] t) = pure () := by
    unfold Builtin.Re.reLiteralCannotBeTurned
    show (isInstance (.bytes #[] t) (.type "bytes") >>= fun r => _) = _
    rw [KBy.isInstance_eq]
    rfl
  refine wpAny_bind (wpAny_of_eq hlit ?_)
  show wpAny _ _ (Builtin.Re.reNextFound (targ a b u) pos false >>= fun r => _) _ _ s
  obtain ⟨seen, e⟩ := forSearch_eq (t := b.map (·.toNat)) (s := pos) (must := false) (by simp; lia)
  obtain ⟨m, hT, hm, hs, hh⟩ := search_found (t := b.map (·.toNat)) (p := q0) (j := j) (by simp; lia) (by rw [getD_map b q0 (by lia), h1]; rfl)
    (fun i hi hl => by
      rw [getD_map b i (by lia)]
      obtain ⟨n1, n2⟩ := h2 i (by lia) hi hl
      exact ⟨nat_ne n1 (by decide), nat_ne n2 (by decide)⟩) (by rw [getD_map b (q0 + 1 + j) (by lia), h3]; rfl) (q0 - pos) pos true false seen (by lia) (fun i hi hl => by
      rw [getD_map b i (by lia)]
      exact nat_ne (h0 i (by lia) hi hl) (by decide))
  rw [← e] at hT
  unfold Builtin.Re.reNextFound
  refine wpAny_bind (to_end hT (by lia) hm ?_)
  -- what is kept, then the replacement
  have go : ∀ (h₁ : Heap) (k₁ : Nat) (o₁ : Obj) (vs₁ : Array Value) (nn₁ : Nat) (parts₁ : List (Array UInt8)), (∀ b' o', b' ≠ L → s.heap.get? b' = some o' → h₁.get? b' = some o') → h₁.get? L = some o₁ → o₁.cls = .type "list" → o₁.isFreed = false → o₁.data = .seq vs₁ nn₁ →
      All2 (fun (b : Array UInt8) v => ∃ t, v = .bytes b t) parts₁ vs₁.toList → vs₁.size ≤ vs.size + 1 → parts₁.foldl (· ++ ·) #[] = parts.foldl (· ++ ·) #[] ++ b.extract pos q0 →
      wpAny (model prog w) A.in1 (updateSeq L (·.push (.bytes #[] t)) >>= fun _ => again (.builtin "re.Pattern.sub.loop" ⟨[.ref a, .bytes b u, .bytes #[] t, rawInt 0, rawInt 0, rawInt (n + 1), rawInt m.handed, rawInt m.handed, .bool (m.handed == m.start), .ref L, .bool false], []⟩))
        (fun fin s' => match fin with | .done f => R (.ok f) s' | .again c' => c'.quiet = true ∧ codeAny (model prog w) A c' R s') (fun e s' => R (.error e) s') { s with heap := h₁, toks := k₁ } := by
    intro h₁ k₁ o₁ vs₁ nn₁ parts₁ kp g1 g2 g3 g4 hv₁ hs₁ hc₁
    refine wpAny_bind (wpAny_updateSeq (s := { s with heap := h₁, toks := k₁ }) g1 g4 ?_ (by rw [sizeLine_eq]; lia) (by rw [sizeLine_eq, Array.size_push]; lia))
    obtain ⟨o', f1, f2, f3, f4⟩ := upd_get (x := .bytes #[] t) g1 g3 g4
    refine wpAny_pure ⟨plainId_quiet plain_pat_loop _, ?_⟩
    have hne : (m.handed == m.start) = false := by rw [hh, hs]; simp; lia
    rw [hne, hh]
    refine c _ k₁ o' _ _ (parts₁ ++ [#[]]) (fun b' o' hb' e => (Heap.SameBut.update ..).extBut b' o' hb' (kp b' o' hb' e)) f1 (f2.trans g2) f3 f4 ?_ ?_ ?_
    · rw [Array.toList_push]
      exact hv₁.append ⟨⟨t, rfl⟩, trivial⟩
    · rw [Array.size_push]; lia
    · rw [foldl_push, hc₁, Array.append_empty]
  show wpAny _ _ (if pos < m.start then _ else _) _ _ s
  by_cases hp : pos < q0
  · rw [if_pos (by rw [hs]; exact hp)]
    refine wpAny_bind (slice_wp hb fun t₁ k₁ => ?_)
    refine wpAny_bind (wpAny_updateSeq (s := { s with toks := k₁ }) ho hd ?_ (by rw [sizeLine_eq]; lia) (by rw [sizeLine_eq, Array.size_push]; lia))
    obtain ⟨o', g1, g2, g3, g4⟩ := upd_get (x := .bytes (b.extract pos m.start) t₁) ho hfr hd
    show wpAny _ _ (if ((0 : Int) == 0) = true then _ else _) _ _ _
    rw [if_pos (by decide)]
    refine wpAny_bind (wpAny_pure ?_)
    show wpAny _ _ (if ((Value.bytes #[] t) != Value.none) = true then _ else _) _ _ _
    rw [if_pos (by rfl)]
    refine go _ k₁ o' _ _ (parts ++ [b.extract pos m.start]) (fun b' o' hb' e => (Heap.SameBut.update ..).extBut b' o' hb' e) g1 (g2.trans hcls) g3 g4 ?_ ?_ ?_
    · rw [Array.toList_push]
      exact hv.append ⟨⟨t₁, rfl⟩, trivial⟩
    · rw [Array.size_push]; exact Nat.le_refl _
    · rw [foldl_push, hs]
  · rw [if_neg (by rw [hs]; exact hp)]
    show wpAny _ _ (if ((0 : Int) == 0) = true then _ else _) _ _ _
    rw [if_pos (by decide)]
    refine wpAny_bind (wpAny_pure ?_)
    show wpAny _ _ (if ((Value.bytes #[] t) != Value.none) = true then _ else _) _ _ _
    rw [if_pos (by rfl)]
    refine go s.heap s.toks o vs nn parts (fun _ _ _ e => e) ho hcls hfr hd hv (by lia) ?_
    have : pos = q0 := by lia
    subst this
    have e0 : b.extract pos pos = #[] := Array.size_eq_zero_iff.mp (by rw [Array.size_extract]; lia)
    rw [e0, Array.append_empty]
end
end Mine

namespace Mine
open PySem PySem.Calls PySem.W

section
variable {prog : Program} {w : World} {A : Around} {K : PM} {a L : Addr} {b : Array UInt8} {t u : Tok}
theorem at_drop {l : List UInt8} {pos : Nat} (h : b.toList.drop pos = l) {i : Nat} (hi : i < b.size) (hp : pos ≤ i) : l[i - pos]? = some (b[i]'hi) := by
  rw [← h, List.getElem?_drop]
  have : pos + (i - pos) = i := by lia
  rw [this, Array.getElem?_toList, Array.getElem?_eq_getElem hi]
theorem mid_at {α : Type} {p q r : List α} {x : α} {i : Nat} : (p ++ x :: (q ++ r))[p.length + 1 + i]? = (q ++ r)[i]? := by
  rw [List.getElem?_append_right (by lia)]
  have : p.length + 1 + i - p.length = i + 1 := by lia
  rw [this, List.getElem?_cons_succ]

theorem loop_run {R : Result → Shared → Prop} (P : PatK K a) (hL : K L = none) (tail : List UInt8) (hb : b.size ≤ 100000) : ∀ (gs : List (List UInt8 × List UInt8)) (pos : Nat) (n : Int) (parts : List (Array UInt8)) (o : Obj) (vs : Array Value) (nn : Nat) (s : Shared), EncOk gs tail →
    Sub K s.heap → s.heap.get? L = some o → o.cls = .type "list" → o.isFreed = false → o.data = .seq vs nn → All2 (fun (b : Array UInt8) v => ∃ t, v = .bytes b t) parts vs.toList → vs.size + 2 * gs.length ≤ 100000 → pos ≤ b.size → b.toList.drop pos = enc gs tail → (parts.foldl (· ++ ·) #[]).size ≤ pos →
    (∀ h' t' k, (∀ b' o', b' ≠ L → s.heap.get? b' = some o' → h'.get? b' = some o') → R (.ok (.ret (.bytes (parts.foldl (· ++ ·) #[] ++ (plain gs tail).toArray) t'))) { s with heap := h', toks := k }) →
    codeAny (model prog w) A (.builtin "re.Pattern.sub.loop" (loopArgs a L b t u n pos)) R s := by
  intro gs
  induction gs with
  | nil =>
    intro pos n parts o vs nn s ok kK ho hcls hfr hd hv hvs hpos hdr hsz c
    refine loop_last P kK ho hcls hfr hd hv (by lia) hb hpos (fun i h hi => ?_) (by lia) fun h' t' k kp => ?_
    · have := at_drop hdr h hi
      exact ok.2 _ (List.mem_of_getElem? this)
    · have e : b.extract pos b.size = (plain [] tail).toArray := by
        apply Array.ext'
        rw [Array.toList_extract, List.extract_eq_take_drop, hdr]
        show List.take _ tail = tail
        apply List.take_of_length_le
        have := congrArg List.length hdr
        rw [List.length_drop, Array.length_toList] at this
        show tail.length ≤ _
        have e2 : (enc [] tail).length = tail.length := rfl
        lia
      rw [e]
      exact c h' t' k kp
  | cons g gs ih =>
    obtain ⟨p, q⟩ := g
    intro pos n parts o vs nn s ok kK ho hcls hfr hd hv hvs hpos hdr hsz c
    have hlen := congrArg List.length hdr
    rw [List.length_drop, Array.length_toList] at hlen
    have hE : enc ((p, q) :: gs) tail = p ++ 34 :: (q ++ 34 :: enc gs tail) := rfl
    rw [hE] at hdr
    rw [hE] at hlen
    simp only [List.length_append, List.length_cons] at hlen hvs
    obtain ⟨okp, okq⟩ := ok.1 (p, q) List.mem_cons_self
    have hat : ∀ i (h : i < b.size), pos ≤ i → (p ++ 34 :: (q ++ 34 :: enc gs tail))[i - pos]? = some (b[i]'h) := fun i h hi => at_drop hdr h hi
    refine loop_turn (pos := pos) (q0 := pos + p.length) (j := q.length) P kK ho hcls hfr hd hv (by lia) hb (by lia) (by lia) (fun i h h1 h2 => ?_) ?_ (fun i h h1 h2 => ?_) ?_ fun h' k o' vs' nn' parts' kp g1 g2 g3 g4 hv' hs' hc' => ?_
    · have := hat i h h1
      rw [List.getElem?_append_left (by lia)] at this
      exact okp _ (List.mem_of_getElem? this)
    · have := hat (pos + p.length) (by lia) (by lia)
      rw [List.getElem?_append_right (by lia)] at this
      have e : pos + p.length - pos - p.length = 0 := by lia
      rw [e] at this
      exact (Option.some.inj this).symm
    · have := hat i h (by lia)
      have e : i - pos = p.length + 1 + (i - (pos + p.length + 1)) := by lia
      rw [e, mid_at, List.getElem?_append_left (by lia)] at this
      exact okq _ (List.mem_of_getElem? this)
    · have := hat (pos + p.length + 1 + q.length) (by lia) (by lia)
      have e : pos + p.length + 1 + q.length - pos = p.length + 1 + q.length := by lia
      rw [e, mid_at, List.getElem?_append_right (by lia), Nat.sub_self] at this
      exact (Option.some.inj this).symm
    · have hex : b.extract pos (pos + p.length) = p.toArray := by
        apply Array.ext'
        rw [Array.toList_extract, List.extract_eq_take_drop, hdr]
        have e : pos + p.length - pos = p.length := by lia
        rw [e, List.take_left' rfl]
      rw [hex] at hc'
      refine ih (pos + p.length + q.length + 2) (n + 1) parts' o' vs' nn' _ ⟨fun g hg => ok.1 g (List.mem_cons_of_mem _ hg), ok.2⟩ (fun b' o'' e => kp b' o'' (fun z => by rw [z, hL] at e; cases e) (kK b' o'' e)) g1 g2 g3 g4 hv' (by lia) (by lia) ?_ ?_ fun h'' t' k' kp' => ?_
      · have e : pos + p.length + q.length + 2 = pos + (p.length + (1 + (q.length + 1))) := by lia
        rw [e, ← List.drop_drop, hdr, ← List.drop_drop, List.drop_left' rfl, ← List.drop_drop]
        show List.drop (q.length + 1) (q ++ 34 :: enc gs tail) = _
        rw [← List.drop_drop, List.drop_left' rfl]
        rfl
      · rw [hc', Array.size_append]
        simp only [List.size_toArray]
        lia
      · have := c h'' t' k' fun b' o'' hb' e => kp' b' o'' hb' (kp b' o'' hb' e)
        rw [hc']
        have e : parts.foldl (· ++ ·) #[] ++ p.toArray ++ (plain gs tail).toArray = parts.foldl (· ++ ·) #[] ++ (plain ((p, q) :: gs) tail).toArray := by
          rw [Array.append_assoc]
          show _ = _ ++ (p ++ plain gs tail).toArray
          simp
        rw [e]
        exact this
end
end Mine

namespace Mine
open PySem PySem.Calls PySem.W

section
variable {prog : Program} {w : World} {K : PM} {a : Addr} {b : Array UInt8}
theorem named_eq (x y : Value) : Builtin.Re.reNamed "re.Pattern.sub" "sub" ["repl", "string", "count"] 2 [x, y] [] = pure [some x, some y, none] := by
  rfl
theorem vl_patsub {r : Nat} {X : XS} {hh : Heap} {gs : List (List UInt8 × List UInt8)} {tail : List UInt8} {vp vr vd : Value} (P : PatK K a) (hb : b.size ≤ 50000) (he : b.toList = enc gs tail) (ok : EncOk gs tail) (hp : vp = .ref a) (hr : ∃ t, vr = .bytes #[] t) (hd : ∃ t, vd = .bytes b t) :
    Vl prog w K r X hh (call (.builtin "re.Pattern.sub") [vp, vr, vd]) (fun v _ => ∃ t, v = .bytes (plain gs tail).toArray t) := by
  subst hp
  obtain ⟨t, rfl⟩ := hr
  obtain ⟨u, rfl⟩ := hd
  intro A s Q E R e kK hX c
  obtain ⟨fs, T, ws, n, h1, h2, h3, h4, h5, h6⟩ := P.at_
  have hT : s.TypeIs (.ref a) "re.Pattern" := ⟨_, kK _ _ h1, rfl⟩
  have hgl : gs.length ≤ b.size := by
    have : ∀ gs : List (List UInt8 × List UInt8), gs.length ≤ (enc gs tail).length := by
      intro gs
      induction gs with
      | nil => exact Nat.zero_le _
      | cons g gs ih =>
        show gs.length + 1 ≤ (g.1 ++ 34 :: (g.2 ++ 34 :: enc gs tail)).length
        simp only [List.length_append, List.length_cons]
        lia
    have h := this gs
    rw [← he, Array.length_toList] at h
    exact h
  refine wpAny_call (codeAny_call_builtin slot_pat_sub.plain entry_pat_sub (slot_pat_sub.check _ _ _ _ _ _ _ _ hT (args_pat_sub _ _ _) ?_))
  show wpAny _ _ (Builtin.Re.reNamed "re.Pattern.sub" "sub" ["repl", "string", "count"] 2 [.bytes #[] t, .bytes b u] [] >>= fun r => _) _ _ s
  refine wpAny_bind (wpAny_of_eq (named_eq _ _) ?_)
  show wpAny _ _ (specialOf (.bytes #[] t) (Str.ofString "__call__") >>= fun r => _) _ _ s
  refine wpAny_bind (wpAny_of_eq (KBy.special_eq look_call) ?_)
  show wpAny _ _ (Builtin.Bytes.bufferQuiet? "re.Pattern.sub" (.bytes #[] t) >>= fun r => _) _ _ s
  refine wpAny_bind (wpAny_of_eq KBy.quiet_eq ?_)
  refine wpAny_bind (wpAny_pure ?_)
  show wpAny _ _ (if (none : Option Value).isSome = true then _ else if (!(#[] : Array UInt8).contains 92) = true then _ else _) _ _ s
  rw [if_neg (by simp), if_pos (by simp)]
  refine wpAny_bind (wpAny_pure ?_)
  refine wpAny_bind (wpAny_holding (target_of P kK ?_))
  show wpAny _ _ (if ((0 : Int) == 1) = true then _ else _) _ _ s
  rw [if_neg (by decide)]
  show wpAny _ _ (newList [] >>= fun r => _) _ _ s
  refine wpAny_bind (wpAny_newList ?_)
  refine wpAny_pure ⟨plainId_quiet plain_pat_loop _, ?_⟩
  have kL : K s.heap.objs.size = none := by
    cases e : K s.heap.objs.size with
    | none => rfl
    | some o => have := kK _ _ e; rw [freshNone] at this; cases this
  refine loop_run (L := s.heap.objs.size) P kL tail (by lia) gs 0 0 [] _ #[] 0 _ ok (fun b' o' e => Heap.get?_push_of_some _ (kK b' o' e)) (Heap.get?_push_size _ rfl) rfl rfl rfl trivial ?_ (Nat.zero_le _) he (Nat.zero_le _) fun h' t' k kp => ?_
  · show 0 + 2 * gs.length ≤ 100000
    lia
  · have e : (([] : List (Array UInt8)).foldl (· ++ ·) #[] ++ (plain gs tail).toArray) = (plain gs tail).toArray := by simp
    rw [e]
    exact c _ h' k (fun b' o' e => kp b' o' (Nat.ne_of_lt (Heap.lt_size e)) (Heap.get?_push_of_some _ e)) ⟨t', rfl⟩
end
end Mine

namespace Mine
open PySem PySem.Calls PySem.W

section
variable {prog : Program} {w : World} {K : PM} {gl : List (Str × Value)} {r : Nat}
/-- a def with values that stand for what is not told -/
theorem fn_of_bodyD {a : Addr} {o : Obj} {fd : FuncData} {body : List Stmt} {pg pd : List (Str × HV)} {ex : List Value} {P : HV} (kf : KF K gl) (ho : K a = some o) (hdata : o.data = .func fd) (hcd : ∀ h, Sub K h → h.CodeRec fd.code fd.qualname)
    (hbody : fd.body = .stmts body) (hcell : ∀ x ∈ fd.scope.names, x.2 ≠ .cell) (hcl : ∀ L, (callEnv fd L a).cells = [])
    (hbind : ∀ (s : Shared) (vs : List Value), Sub K s.heap → vs.length = pg.length → BindsTo s fd ⟨vs, []⟩ (((pg ++ pd).map (·.1)).zip (vs ++ ex)))
    (hex : ∀ X h, All2 (fun (P : HV) v => P.p X h v) (pd.map (·.2)) ex)
    (hloc : ∀ p ∈ pg ++ pd, fd.scope.names.lookup p.1 = some .local)
    (h : ∀ L, Ex prog w K (callEnv fd L a) r ((pg ++ pd).map fun p => (p.1, Ent.imm p.2)).reverse body (.ret P))
    (hco : fd.scope.isCoroutine = false := by rfl) (hgen : fd.scope.isGenerator = false := by rfl) (hk : fd.scope.kind = .function := by rfl) :
    Fn prog w K a (r + 1) (pg.map fun p => p.2.w) P := by
  intro A s X vs Q E R kK hX hv c
  have hlen : vs.length = pg.length := by have := hv.length; simpa using this.symm
  have hv' : All2 (fun (P : HV) v => P.p X s.heap v) ((pg ++ pd).map (·.2)) (vs ++ ex) := by
    have : pg.map (fun p => p.2.w) = (pg.map (·.2)).map HV.w := by simp [List.map_map, Function.comp_def]
    rw [this] at hv
    rw [List.map_append]
    exact (All2.map_left.mp hv).append (hex X s.heap)
  refine wpAny_call (codeAny_call_def (by have := R.dep; lia) (kK a o ho) hdata (kf.nolimit _ kK) (hcd _ kK) hbody (hbind s vs kK hlen) hcell ?_ (fun hh hns keep => ?_) hco hgen hk)
  · rintro ⟨n, v⟩ hm
    have hn := (List.of_mem_zip hm).1
    obtain ⟨p, hp, e⟩ := List.mem_map.mp hn
    have := hloc p hp
    rw [show p.1 = n from e] at this
    exact this
  · let env := callEnv fd s.heap.objs.size a
    have hcells : env.cells = [] := hcl _
    have noCell : ∀ n c, env.cells.lookup n = some c → False := fun n c hc => by rw [hcells] at hc; cases hc
    refine h s.heap.objs.size (A.deeper env) { s with heap := hh, toks := _ } (fun b => s.heap.get? b) X (fun b => b = env.locals) _ _ R.deeper ?_ ?_
    · refine ⟨kK, keep, fun b q => ⟨there_keeps hX keep b q, fun z => ?_⟩, ?_, ?_, rfl, fun n c hc _ => (noCell n c hc).elim, fun n n' c h1 h2 => (noCell n c h1).elim, fun n c hc => (noCell n c hc).elim, _, fun _ => none, ⟨hns, fun n c hc => (noCell n c hc).elim⟩, ?_, ?_⟩
      · have := hX b q
        rw [show b = env.locals from z, show s.heap.get? env.locals = none from freshNone _] at this; cases this
      · rintro b rfl
        exact freshNone _
      · rintro b rfl
        obtain ⟨o, _, _, e, _⟩ := hns; exact liveAt e
      · intro y e hy
        obtain ⟨v, hl, hp⟩ := lookup_all2 hv' hy
        refine ⟨v, ?_, ?_⟩
        · have hm := mem_of_lookup hl
          have hn := (List.of_mem_zip (List.mem_reverse.mp hm)).1
          obtain ⟨p, hp, e⟩ := List.mem_map.mp hn
          unfold valOf
          rw [show env.kindOf y = some .local from e ▸ hloc p hp]
          exact hl
        · refine e.w.mono keep (Ent.refr hp fun b q => ?_)
          rcases q with q | rfl
          · exact .inl q
          · exact .inr (freshNone _)
      · have noOwn : ∀ y e, ((pg ++ pd).map fun p => (p.1, Ent.imm p.2)).reverse.lookup y = some e → e.isOwn = true → False := by
          intro y e hy ho'
          obtain ⟨p, hp, hpe⟩ := List.mem_map.mp (List.mem_reverse.mp (mem_of_lookup' hy))
          cases hpe; cases ho'
        exact ⟨fun y e hy ho' => (noOwn y e hy ho').elim, fun y z ey ez b _ hy _ ho' _ _ => (noOwn y ey hy ho').elim⟩
    · rintro f h' tk' ⟨v, rfl, hs, hp⟩
      exact c v h' tk' hs hp
end
end Mine

namespace Mine
open PySem PySem.Calls PySem.W

noncomputable def WPat : WV where
  p _ h v := v = .ref 164 ∧ ∃ fs, h.get? 164 = some { cls := .type "re.Pattern", data := .fields fs }
  mono := fun k ⟨e, fs, h⟩ => ⟨e, fs, k _ _ h⟩

section
variable {w : World} {K : PM} {r : Nat} {env : Env} {ρ : Ctx}
theorem ev_pat {p : Pos} (kf : KF K GL) (P : PatK K 164) (hgl : env.globals = mainGlobals := by rfl) (hk : env.scope.kind = .function := by rfl) (hx : env.kindOf "_quoted" = some .globalImplicit := by rfl) : Ev PW w K env r ρ (.Name "_quoted" p) WPat := by
  intro A s X Q E R k S c
  obtain ⟨fs, T, ws, n, h1, _⟩ := P.at_
  exact ev_gname kf (f := "_quoted") (fv := .ref 164) rfl hgl hk hx (by decide) A s X Q E R k S fun v h' tk kp e => c v h' tk kp ⟨e, fs, (k.keeps kp) _ _ h1⟩
theorem ev_bytesC {x : List UInt8} {kk : Nat} {pos : Pos} : Ev PW w K env r ρ (.Constant (.bytes x) kk pos) (TBytes x.toArray) := by
  intro A s X Q E R k S c
  exact Constant_bytes (c _ s.heap _ (fun _ _ e => e) ⟨_, rfl⟩)
theorem bytesShape {b : Array UInt8} (X : XS) (s : Shared) (v : Value) (h : (TBytes b).p X s.heap v) : s.TypeIs v "bytes" ∧ ∀ a, v = .ref a → ∃ ob, s.heap.get? a = some ob ∧ ob.dict = none := by
  obtain ⟨t, rfl⟩ := h
  exact ⟨typeIs_bytes s b t, fun a e => by cases e⟩
theorem ev_countB {o a : Expr} {apos pos : Pos} {b : Array UInt8} {x : UInt8} (ho : Ev PW w K env r ρ o (TBytes b)) (ha : Ev PW w K env r ρ a (TBytes #[x])) (hst : starEach [a] env = [(false, eval a env)] := by rfl)
    (hbase : attributeBase o "count" env (eval o env) = eval o env := by rfl) (hline : (apos.endLine == pos.line) = true := by rfl) :
    Ev PW w K env r ρ (.Call (.Attribute o "count" apos) [a] [] pos) (TInt (b.toList.count x : Nat)) := by
  refine ev_meth FB.plainAttrs_bytes slot_bytes_count type_bytes_count ho bytesShape (evl_cons ha evl_nil hst) ?_ hbase (by rw [hst]; rfl) hline
  rintro X hh ov vs po pv
  obtain ⟨v, rfl, p⟩ := vs1 pv
  exact vl_count po p
theorem ev_patsub {a1 a2 : Expr} {p apos pos : Pos} {b : Array UInt8} {gs : List (List UInt8 × List UInt8)} {tail : List UInt8} (kf : KF K GL) (P : PatK K 164) (hb : b.size ≤ 50000) (he : b.toList = enc gs tail) (ok : EncOk gs tail)
    (h1 : Ev PW w K env r ρ a1 (TBytes #[])) (h2 : Ev PW w K env r ρ a2 (TBytes b)) (hst : starEach [a1, a2] env = (false, eval a1 env) :: starEach [a2] env := by rfl) (hst2 : starEach [a2] env = [(false, eval a2 env)] := by rfl)
    (hgl : env.globals = mainGlobals := by rfl) (hk : env.scope.kind = .function := by rfl) (hx : env.kindOf "_quoted" = some .globalImplicit := by rfl)
    (hbase : attributeBase (.Name "_quoted" p) "sub" env (eval (.Name "_quoted" p) env) = eval (.Name "_quoted" p) env := by rfl) (hline : (apos.endLine == pos.line) = true := by rfl) :
    Ev PW w K env r ρ (.Call (.Attribute (.Name "_quoted" p) "sub" apos) [a1, a2] [] pos) (TBytes (plain gs tail).toArray) := by
  refine ev_meth plainAttrs_pat slot_pat_sub type_pat_sub (ev_pat kf P hgl hk hx) ?_ (evl_cons h1 (evl_cons h2 evl_nil hst2) hst) ?_ hbase (by rw [hst, hst2]; rfl) hline
  · rintro X s v ⟨rfl, fs, h⟩
    exact ⟨⟨_, h, rfl⟩, fun a e => by cases e; exact ⟨_, h, rfl⟩⟩
  · rintro X hh ov vs po pv
    obtain ⟨v, v', rfl, p1, p2⟩ := vs2 pv
    exact vl_patsub P hb he ok po.1 p1 p2

/-- the def with its default -/
structure PdAt (K : PM) : Prop where
  at_ : ∃ o pm cd doc T n t, K 172 = some o ∧ o.data = .func { fdAt 20 pm cd doc with defaults := .ref T } ∧ K T = some { cls := .type "tuple", data := .seq #[.int 0 t] n } ∧ ∀ h, Sub K h → h.CodeRec cd (nameOf (stm 20))

noncomputable def cnt (l : List UInt8) : Int := (0 + (l.count 40 : Nat)) - (l.count 41 : Nat)
theorem fn_pd {b : Array UInt8} {gs : List (List UInt8 × List UInt8)} {tail : List UInt8} (kf : KF K GL) (F : PdAt K) (P : PatK K 164) (hb : b.size ≤ 50000) (he : b.toList = enc gs tail) (ok : EncOk gs tail) :
    Fn PW w K 172 (r + 1) [(TBytes b).w] (TInt (cnt (plain gs tail))).w := by
  obtain ⟨o, pm, cd, doc, T, n, t, ho, hd, hT, hc⟩ := F.at_
  refine fn_of_bodyD (pg := [("data", TBytes b)]) (pd := [("depth", TInt 0)]) (ex := [.int 0 t]) (P := TInt (cnt (plain gs tail))) kf ho hd hc rfl ?_ (fun L => rfl) ?_ (fun X h => ⟨⟨t, rfl⟩, trivial⟩) ?_ fun L => ?_
  · intro y hy
    have := List.all_eq_true.mp (show ((scopeOf (stm 20)).names.all fun y => y.2 != .cell) = true from rfl) y hy
    simpa using this
  · intro s vs kK hl
    obtain ⟨v, rfl⟩ := ln1 hl
    exact BindsTo.of_defaults (T := T) rfl (kK _ _ hT) rfl rfl rfl
  · intro p hp
    simp only [List.cons_append, List.nil_append, List.mem_cons, List.not_mem_nil, or_false] at hp
    rcases hp with rfl | rfl <;> rfl
  · refine ex_cons (exs_assign (P := TBytes (plain gs tail).toArray) canLocal (ev_patsub kf P hb he ok ev_bytesC ev_v)) ?_
    exact ex_ret (exs_return (ev_sub (ev_add (ev_v (P := TInt 0)) (ev_countB (ev_v (P := TBytes (plain gs tail).toArray)) ev_bytesC)) (ev_countB (ev_v (P := TBytes (plain gs tail).toArray)) ev_bytesC)))
end
end Mine

namespace Mine
open PySem PySem.Calls PySem.W

section
variable {prog : Program} {w : World} {A : Around} {s : Shared} {K : Frag} {C x : Addr} {R : Result → Shared → Prop}
theorem osa_raw {ox od od' : Obj} {dx : Addr} {name : Str} {tk : Tok} {v : Value} {es : List DictEntry} {n : Nat} (X : K.In s.heap) (D : s.heap.get? dx = some od)
    (I : InstAt s.heap x ox C (some od)) (hd : ox.dict = some dx) (hp : plainOver K C = true) (ht : takerIn K C name = some none) (hh : (clsIn K C).any (·.hasDict) = true)
    (hl : (lookIn name od).isSome = true)
    (e : Obj.putName name (PyData.keyHash w.params name) (.str name s.toks) v od = od') (hfr : od'.isFreed = false) (e' : od'.data = .dict es.toArray n) (hz : es.length ≤ 1000)
    (h : R (.ok (.ret .none)) { s with heap := s.heap.update dx (Obj.putName name (PyData.keyHash w.params name) (.str name s.toks) v), toks := s.toks + 1 }) :
    codeAny (model prog w) A (.call (.builtin "object.__setattr__") ⟨[.ref x, .str name tk, v], []⟩) R s := by
  refine osa_open X I hp ht fun b => ?_
  obtain ⟨cd, hc, hd'⟩ := any_some hh
  have D' : (s.heap.update dx (Obj.putName name (PyData.keyHash w.params name) (.str name s.toks) v)).get? dx = some od' := by
    rw [← e]; exact Heap.get?_update_self _ D (by rw [e]; exact hfr)
  obtain ⟨hx, hcl, hn, -⟩ := I
  obtain ⟨oc, odi, oda, osl⟩ := ox
  dsimp only at hcl hd
  subst hcl hd
  refine wpAny_bind (wpAny_pure (wpAny_bind (wpAny_bind (wpAny_loadPart hx (wpAny_bind ((looks_clsIn X hc).here ?_))))))
  rw [hd']
  refine wpAny_pure (a := some dx) (wpAny_bind (wpAny_pure (wpAny_bind ?_)))
  unfold nsSet
  refine wpAny_bind (wpAny_bind (wpAny_askSetting (wpAny_pure (wpAny_bind (wpAny_mkText (wpAny_bind (wpAny_loadPart D ?_)))))))
  unfold lookIn at hl
  split at hl
  · rename_i es₀ n₀ q
    rw [q]
    dsimp only
    have c : (!es₀.any (·.key.isStr name) && es₀.any (·.refKey)) = false := by
      rw [← Array.any_toList, ← Array.any_toList]
      split at hl
      · rename_i en he
        rw [List.any_eq_true.mpr ⟨en, List.mem_of_find?_eq_some he, List.find?_some he⟩]; rfl
      · split at hl
        · cases hl
        · rename_i z; rw [Bool.not_eq_true] at z; rw [z, Bool.and_false]
    rw [aRefKeyMayBeTheName_at, c]
    refine wpAny_updatePart D ?_
    refine wpAny_bind (wpAny_lookBehind D' (by rw [e']; exact pastItsLine_dict (by rw [List.size_toArray, sizeLine_eq]; omega)) ?_)
    exact wpAny_pure h
  · cases hl
end
end Mine

namespace Mine
open PySem PySem.Calls PySem.W

structure NewOk (KK : Frag) (C fI : Addr) : Prop where
  mks : makesIn KK C = true
  ini : findIn KK (.ref C) "__init__" = some (some (.ref fI))
  typ : typeIn KK (.ref fI) = some (.type "function")
  set : findIn KK (.ref C) "__setattr__" = some (some (.builtin "object.__setattr__"))
  over : plainOver KK C = true
  taker : takerIn KK C "comp_select_list" = some none
  hd : (clsIn KK C).any (·.hasDict) = true

section
variable {w : World} {K : PM} {r : Nat}
theorem put_one (name : Str) (h : Int) (key v : Value) : Obj.putName name h key v emptyDict = { cls := .type "dict", data := .dict #[⟨h, key, v⟩] 1 } := by
  rw [Obj.putName_eq]
  simp [Obj.putNameByArray, emptyDict]
set_option maxHeartbeats 1000000 in
theorem make_ord {A : Around} {s : Shared} {X : XS} {Q : Value → Shared → Prop} {E : Value → Shared → Prop} {l C fI : Addr} {KK : Frag} {Ps : List (HV × HV)} (kf : KF K GL) (hKK : ∀ h, Sub K h → KK.In h) (N : NewOk KK C fI) (F : FnQ K initStm "TupleComp.__init__" fI) (R : Room A (r + 3)) (kK : Sub K s.heap)
    (hX : ∀ b, X b → (s.heap.get? b).isSome = true) (hl : (TList (Ps.map fun p => TTup [p.1, p.2])).p X s.heap (.ref l))
    (c : ∀ v h' tk, (∀ b o, s.heap.get? b = some o → h'.get? b = some o) → (TOrd C Ps).p X h' v → Q v { s with heap := h', toks := tk }) : wpAny (model PW w) A (call (.ref C) [.ref l]) Q E s := by
  obtain ⟨hh, g, d, t, os⟩ := s
  have In₀ := hKK _ kK
  refine wpAny_call (make_core (makes_of In₀ N.mks) (looks_findIn In₀ N.ini) (fun self => bind_fn In₀ self N.typ) (.inl rfl) ?_)
  obtain ⟨o, pm, cd, doc, ho, hd, hc⟩ := F.at_
  have up : ∀ b o, hh.get? b = some o → ((hh.push emptyDict).push (instObj C hh.objs.size)).get? b = some o := fun b o e => Heap.get?_push_of_some _ (Heap.get?_push_of_some _ e)
  have k2 : Sub K ((hh.push emptyDict).push (instObj C hh.objs.size)) := fun a o e => up a o (kK a o e)
  have dx2 : ((hh.push emptyDict).push (instObj C hh.objs.size)).get? hh.objs.size = some emptyDict := Heap.get?_push_of_some _ (Heap.get?_push_size _ rfl)
  have x2 : ((hh.push emptyDict).push (instObj C hh.objs.size)).get? (hh.objs.size + 1) = some (instObj C hh.objs.size) := by
    have := Heap.get?_push_size (hh.push emptyDict) (o := instObj C hh.objs.size) rfl
    rwa [Heap.size_push] at this
  refine codeAny_call_cells (s := ⟨(hh.push emptyDict).push (instObj C hh.objs.size), g, d, t, os⟩) (by have := R.dep; rw [depth_under_kw]; lia) (k2 _ _ ho) hd (kf.nolimit _ k2) (hc _ k2) rfl (binds := [("self", .ref (hh.objs.size + 1)), ("comp_select_list", .ref l)]) rfl rfl ?_ (fun s₁ xx => ?_)
  · rintro p hp
    simp only [List.mem_cons, List.not_mem_nil, or_false] at hp
    rcases hp with rfl | rfl <;> exact .inl rfl
  · obtain ⟨h3, tk, rfl⟩ := xx.toInCall.same
    let env := envQ initStm "TupleComp.__init__" pm cd doc ((hh.push emptyDict).push (instObj C hh.objs.size)).objs.size fI
    have k3 := xx.toInCall.keep
    have K3 : Sub K h3 := fun a o e => k3 a o (k2 a o e)
    have S : Sat env [("comp_select_list", .imm (TVal fun v => v = .ref l)), ("self", .imm (TVal fun v => v = .ref (hh.objs.size + 1)))] (fun _ => False) h3 := by
      refine ⟨fun b z => z.elim, _, _, ⟨xx.toInCall.ns, xx.cell⟩, fun y e hy => ?_⟩
      have : (y = Str.ofString "comp_select_list" ∧ e = .imm (TVal fun v => v = .ref l)) ∨ (y = Str.ofString "self" ∧ e = .imm (TVal fun v => v = .ref (hh.objs.size + 1))) := by
        rw [List.lookup_cons] at hy
        cases q : y == Str.ofString "comp_select_list" with
        | true => rw [q] at hy; cases hy; exact .inl ⟨eq_of_beq q, rfl⟩
        | false =>
          rw [q] at hy
          simp only [List.lookup_cons] at hy
          cases q2 : y == Str.ofString "self" with
          | true => rw [q2] at hy; cases hy; exact .inr ⟨eq_of_beq q2, rfl⟩
          | false => rw [q2] at hy; cases hy
      rcases this with ⟨rfl, rfl⟩ | ⟨rfl, rfl⟩
      · exact ⟨.ref l, rfl, rfl⟩
      · exact ⟨.ref (hh.objs.size + 1), rfl, rfl⟩
    have eu : (A.under (.builtin "type.__call__" ⟨[.ref C, .ref l], []⟩)).units ≤ A.units + 10 := by
      show A.units + (Code.builtin "type.__call__" ⟨[.ref C, .ref l], []⟩).cUnits ≤ A.units + 10
      have e : (Code.builtin "type.__call__" ⟨[.ref C, .ref l], []⟩).frames ≤ 3 := Nat.le_of_ble_eq_true (by kernel_rfl)
      show A.units + (1 + 3 * (Code.builtin "type.__call__" ⟨[.ref C, .ref l], []⟩).frames) ≤ A.units + 10
      lia
    have Rd : Room ((A.under (.builtin "type.__call__" ⟨[.ref C, .ref l], []⟩)).deeper env) r := by
      refine ⟨R.hh, ?_, ?_⟩
      · have := R.dep; show A.depth + 1 + 1 + r < _; lia
      · have := R.un
        show (A.under (.builtin "type.__call__" ⟨[.ref C, .ref l], []⟩)).units + 3 + 10 * r < _
        lia
    refine wpAny_execs_cons (plainObj_wpAny_Assign_Attribute ?_)
    refine (ev_v (P := TVal fun v => v = .ref l) : Ev PW w K env r _ _ _) _ _ _ _ _ Rd K3 S ?_
    rintro v h4 t4 k4 rfl
    refine (ev_v (P := TVal fun v => v = .ref (hh.objs.size + 1)) : Ev PW w K env r _ _ _) _ _ _ _ _ Rd (K3.keeps k4) (S.keeps k4) ?_
    rintro v h5 t5 k5 rfl
    have kAll : ∀ b o, ((hh.push emptyDict).push (instObj C hh.objs.size)).get? b = some o → h5.get? b = some o := fun b o e => k5 b o (k4 b o (k3 b o e))
    have In5 : KK.In h5 := hKK _ (fun a o e => kAll a o (k2 a o e))
    have I5 : InstAt h5 (hh.objs.size + 1) (instObj C hh.objs.size) C (some emptyDict) := ⟨kAll _ _ x2, rfl, rfl, kAll _ _ dx2⟩
    refine set_plain (s := { heap := h5, gens := g, drawn := d, toks := t5, os := os }) In5 I5 N.set ?_
    refine osa_raw (s := { heap := h5, gens := g, drawn := d, toks := t5 + 1, os := os }) (od := emptyDict) In5 (kAll _ _ dx2) I5 rfl N.over N.taker N.hd rfl (put_one _ _ _ _) rfl (es := [_]) rfl (by simp) ?_
    refine wpAny_execs_nil ?_
    refine ⟨rfl, c _ _ _ (fun b o e => ?_) ?_⟩
    · exact (Heap.SameBut.update ..).extBut b o (Nat.ne_of_lt (Heap.lt_size e)) (kAll b o (up b o e))
    · have nX : ∀ b, hh.objs.size ≤ b → ¬ X b := fun b hb z => by have := hX b z; rw [Heap.get?_none_of_le hb] at this; cases this
      have dx5 : (h5.update hh.objs.size (Obj.putName (Str.ofString "comp_select_list") (PyData.keyHash w.params (Str.ofString "comp_select_list")) (.str (Str.ofString "comp_select_list") (t5 + 1)) (.ref l))).get? hh.objs.size = some { cls := .type "dict", data := .dict #[⟨PyData.keyHash w.params (Str.ofString "comp_select_list"), .str (Str.ofString "comp_select_list") (t5 + 1), .ref l⟩] 1 } := by
        rw [← put_one]
        exact Heap.get?_update_self _ (kAll _ _ dx2) (by rw [put_one]; rfl)
      have keep5 : ∀ b o, hh.get? b = some o → (h5.update hh.objs.size (Obj.putName (Str.ofString "comp_select_list") (PyData.keyHash w.params (Str.ofString "comp_select_list")) (.str (Str.ofString "comp_select_list") (t5 + 1)) (.ref l))).get? b = some o :=
        fun b o e => (Heap.SameBut.update ..).extBut b o (Nat.ne_of_lt (Heap.lt_size e)) (kAll b o (up b o e))
      exact ⟨hh.objs.size + 1, hh.objs.size, _, l, rfl, nX _ (by lia), nX _ (Nat.le_refl _), (Heap.SameBut.update ..).extBut _ _ (Nat.succ_ne_self _) (kAll _ _ x2), dx5, rfl, rfl, (TList (Ps.map fun p => TTup [p.1, p.2])).frame (fun b o _ e => keep5 b o e) hl⟩
end
end Mine

namespace Mine
open PySem PySem.Calls PySem.W

section
variable {prog : Program} {w : World} {A : Around} {E : Value → Shared → Prop} {s : Shared}
theorem callWith_class {KK : Frag} {pos : Pos} {a : Addr} {o : Obj} {cd : ClassData} {args : List (Bool × Sem Value)} {Q : Value → Shared → Prop} (hsp : specialIn KK (.ref a) "__call__" = some (some (.builtin "type.__call__"))) (hst : args.any (·.1) = false)
    (h : wpAny (model prog w) A (evalArgs (.ref a) true args []) (fun x s₁ => (s₁.heap.get? a = some o ∧ o.data = .cls cd ∧ KK.In s₁.heap) ∧ wpAny (model prog w) A (call (.ref a) x.pos x.kw) Q E s₁) E s) :
    wpAny (model prog w) A (callWith pos (.ref a) [] args []) Q E s := by
  unfold callWith
  refine wpAny_bind (wpAny_holding (wpAny_mono h (fun x s₁ h₁ => wpAny_bind (wpAny_standAt ?_)) fun _ _ x => x))
  obtain ⟨⟨hg, hd, hIn⟩, hc⟩ := h₁
  show wpAny _ _ (keeperOf (.ref a) >>= _) _ _ _
  refine wpAny_bind ?_
  unfold keeperOf
  refine wpAny_bind (wpAny_load hg ?_)
  rw [hd]
  refine wpAny_bind ((looks_specialIn hIn hsp).here ?_)
  rw [if_pos (by rfl)]
  refine wpAny_pure ?_
  rw [hst]
  show wpAny _ _ (call (.ref a) x.pos x.kw >>= fun r => do holding [r] point; pure r) _ _ _
  exact wpAny_bind (wpAny_mono hc (fun r s' hr => wpAny_bind (wpAny_holding (wpAny_point (wpAny_pure hr)))) fun _ _ x => x)
end
end Mine

namespace Mine
open PySem PySem.Calls PySem.W

section
variable {w : World} {K : PM} {r : Nat} {env : Env} {ρ : Ctx}
theorem ev_new {p pos : Pos} {a : Expr} {Ps : List (HV × HV)} {C fI : Addr} {KK : Frag} {o : Obj} {cd : ClassData} (kf : KF K GL) (hKK : ∀ h, Sub K h → KK.In h) (N : NewOk KK C fI) (F : FnQ K initStm "TupleComp.__init__" fI) (hsp : specialIn KK (.ref C) "__call__" = some (some (.builtin "type.__call__")))
    (hC : K C = some o) (hd : o.data = .cls cd) (hg : GL.lookup (Str.ofString "TupleComp") = some (.ref C)) (ha : Ev PW w K env (r + 3) ρ a (TList (Ps.map fun p => TTup [p.1, p.2])))
    (hst : starEach [a] env = [(false, eval a env)] := by rfl) (hgl : env.globals = mainGlobals := by rfl) (hk : env.scope.kind = .function := by rfl) (hx : env.kindOf "TupleComp" = some .globalImplicit := by rfl) :
    Ev PW w K env (r + 3) ρ (.Call (.Name "TupleComp" p) [a] [] pos) (TOrd C Ps) := by
  intro A s X Q E R k S c
  show wpAny _ A (do callWith pos (← eval (.Name "TupleComp" p) env) [] (backTo pos (starEach [a] env)) (backToKw pos (keywordEach [] env))) Q E s
  refine wpAny_bind (ev_gname kf (f := "TupleComp") (fv := .ref C) hg hgl hk hx (by decide) A s X _ E R k S ?_)
  rintro v h₀ t₀ k₀ rfl
  have hargs := evl_cons (pos := pos) ha evl_nil hst
  have k1 := k.keeps k₀
  refine callWith_class (s := { s with heap := h₀, toks := t₀ }) hsp (by rw [hst]; rfl) (evalArgs_trees hargs.plain (hargs.run A _ _ _ _ R k1 (S.keeps k₀) fun vs h' tk kp pv => ⟨⟨(k1.keeps kp) _ _ hC, hd, hKK _ (k1.keeps kp)⟩, ?_⟩))
  obtain ⟨v, rfl, pl⟩ := vs1 pv
  obtain ⟨⟨l, rfl, hX⟩, pl2⟩ := pl
  exact make_ord kf hKK N F R (k1.keeps kp) (there_keeps (there_keeps S.1 k₀) kp) ⟨⟨l, rfl, hX⟩, pl2⟩ fun v h'' tk' kp' pv => c v h'' tk' (fun b o e => kp' b o (kp b o (k₀ b o e))) pv
end
end Mine

namespace Mine
open PySem PySem.Calls PySem.W

/-! ### texts as lists: where a part stands -/
theorem S_toList (l : List Nat) : (S l).cps.toList = l := by simp [S]
theorem S_of (x : Str) : S x.cps.toList = x := by unfold S; simp
theorem one_S (c : Nat) : (⟨#[c]⟩ : Str) = S [c] := rfl
noncomputable def Fits (l h : List Nat) (i : Nat) : Prop := i + h.length ≤ l.length ∧ (l.drop i).take h.length = h
theorem at_iff (l h : List Nat) (i : Nat) : StrLaws.At (S l) (S h) (S l).length i ↔ Fits l h i := by
  unfold StrLaws.At Fits
  rw [StrLaws.subAt_eq, S_toList, S_toList, S_len, S_len, beq_iff_eq]
theorem fits_mid (p h q : List Nat) : Fits (p ++ (h ++ q)) h p.length := by
  refine ⟨by simp only [List.length_append]; lia, ?_⟩
  rw [List.drop_left, List.take_left]
theorem fits_at {l h : List Nat} {i : Nat} (x : Fits l h i) {j : Nat} (hj : j < h.length) : l[i + j]? = h[j]? := by
  obtain ⟨_, e⟩ := x
  conv => rhs; rw [← e]
  rw [List.getElem?_take_of_lt hj, List.getElem?_drop]
theorem fits_split {l h : List Nat} {i : Nat} (x : Fits l h i) : l = l.take i ++ (h ++ l.drop (i + h.length)) := by
  obtain ⟨hl, e⟩ := x
  conv => lhs; rw [← List.take_append_drop i l, ← List.take_append_drop h.length (l.drop i), e, List.drop_drop]

theorem find_at {l h : List Nat} {p : Nat} (h1 : Fits l h p) (hmin : ∀ i, i < p → ¬ Fits l h i) : Txt.find (S l) (S h) = (p : Int) := by
  unfold Txt.find
  rcases StrLaws.occ_head (S l) (S h) 1 (Nat.le_refl 1) with ⟨_, hn⟩ | ⟨i, r, e, hi, hk⟩
  · exact absurd ((at_iff l h p).mpr h1) (hn p)
  · rw [e]
    show (i : Int) = p
    rcases Nat.lt_trichotomy i p with z | z | z
    · exact absurd ((at_iff l h i).mp hi) (hmin i z)
    · rw [z]
    · exact absurd ((at_iff l h p).mpr h1) (hk p z)
theorem find_no {l h : List Nat} (hno : ∀ i, ¬ Fits l h i) : Txt.find (S l) (S h) < 0 := by
  unfold Txt.find
  rcases StrLaws.occ_head (S l) (S h) 1 (Nat.le_refl 1) with ⟨e, _⟩ | ⟨i, r, e, hi, hk⟩
  · rw [e]; decide
  · exact absurd ((at_iff l h i).mp hi) (hno i)
theorem contains_iff (l : List Nat) (c : Nat) : Txt.contains (S l) ⟨#[c]⟩ = decide (c ∈ l) := by
  unfold Txt.contains
  rw [StrLaws.found_one, S_toList]
theorem getD_S (l : List Nat) (v : Nat) : (S l).cps.getD v 0 = l.getD v 0 := by
  simp [S, Array.getD, List.getD]
  split
  · rename_i h; rw [List.getElem?_eq_getElem h]; rfl
  · rename_i h; rw [List.getElem?_eq_none (by lia)]; rfl
theorem fromIndex_nat (n a : Nat) (h : a ≤ n) : PySem.fromIndex n (a : Int) = a := by
  unfold PySem.fromIndex
  lia
theorem find3_at {l pre post : List Nat} {c : Nat} {a : Nat} (e : l = pre ++ c :: post) (ha : a ≤ pre.length) (hno : ∀ v, a ≤ v → v < pre.length → pre.getD v 0 ≠ c) : Txt.find3 (S l) ⟨#[c]⟩ (a : Int) = (pre.length : Int) := by
  have hl : (S l).length = pre.length + 1 + post.length := by rw [S_len, e]; simp; lia
  have hf : PySem.fromIndex (S l).length (a : Int) = a := fromIndex_nat _ _ (by lia)
  have hc : (S l).cps.getD pre.length 0 = c := by rw [getD_S, e]; simp [List.getD]
  have hb : ∀ v, v < pre.length → (S l).cps.getD v 0 = pre.getD v 0 := fun v hv => by
    rw [getD_S, e]; simp only [List.getD]; rw [List.getElem?_append_left hv]
  rcases StrLaws.find3_spec (S l) c (a : Int) with ⟨_, hn⟩ | ⟨k, hk, h1, h2, h3, h4⟩
  · exact absurd hc (hn pre.length (by rw [hf]; exact ha) (by lia))
  · rw [hk]
    rw [hf] at h1 h4
    rcases Nat.lt_trichotomy k pre.length with z | z | z
    · rw [hb k z] at h3; exact absurd h3 (hno k h1 z)
    · rw [z]
    · exact absurd hc (h4 pre.length ha z)
theorem slice_eqS (x : Str) (l u : Option Int) : Txt.slice x l u = StrLaws.sliceText x l u := rfl
theorem slice_ab {l : List Nat} {a b : Nat} (hab : a ≤ b) (hb : b ≤ l.length) : Txt.slice (S l) (some (a : Int)) (some (b : Int)) = S ((l.drop a).take (b - a)) := by
  rw [slice_eqS, StrLaws.sliceText_nat (S l) hab (by rw [S_len]; exact hb), S_toList]; rfl
theorem slice_to {l : List Nat} {b : Nat} (hb : b ≤ l.length) : Txt.slice (S l) none (some (b : Int)) = S (l.take b) := by
  rw [slice_eqS, StrLaws.sliceText_to ⟨by lia, by rw [S_toList]; lia⟩, S_toList]
  simp [S]
theorem slice_from {l : List Nat} {a : Nat} (ha : a ≤ l.length) : Txt.slice (S l) (some (a : Int)) none = S (l.drop a) := by
  rw [slice_eqS, StrLaws.sliceText_from ⟨by lia, by rw [S_toList]; lia⟩, S_toList]
  have : (((l.length : Int)) - (a : Int)).toNat = (l.drop a).length := by rw [List.length_drop]; lia
  rw [Int.toNat_natCast, this, List.take_length]; rfl

/-! ### cutting at a sign -/
noncomputable def joinL (c : Nat) : List (List Nat) → List Nat
  | [] => []
  | [x] => x
  | x :: r => x ++ c :: joinL c r
theorem join_S (c : Nat) : ∀ ps : List (List Nat), Str.join ⟨#[c]⟩ (ps.map S) = S (joinL c ps)
  | [] => rfl
  | [x] => rfl
  | x :: y :: r => by
    show S x ++ ⟨#[c]⟩ ++ Str.join ⟨#[c]⟩ ((y :: r).map S) = _
    rw [join_S c (y :: r), one_S, S_app, S_app]
    show S _ = S (x ++ c :: joinL c (y :: r))
    congr 1
    simp
theorem joinL_inj (c : Nat) : ∀ (ps qs : List (List Nat)), ps ≠ [] → qs ≠ [] → (∀ p ∈ ps, c ∉ p) → (∀ q ∈ qs, c ∉ q) → joinL c ps = joinL c qs → ps = qs
  | [], _, h, _, _, _, _ => absurd rfl h
  | _ :: _, [], _, h, _, _, _ => absurd rfl h
  | [x], [y], _, _, _, _, e => by simpa [joinL] using e
  | [x], y :: z :: r, _, _, hx, _, e => by
    have : c ∈ joinL c [x] := by rw [e]; simp [joinL]
    exact absurd this (hx x (List.mem_singleton.mpr rfl))
  | x :: z :: r, [y], _, _, _, hy, e => by
    have : c ∈ joinL c [y] := by rw [← e]; simp [joinL]
    exact absurd this (hy y (List.mem_singleton.mpr rfl))
  | x :: z :: r, y :: u :: t, _, _, hx, hy, e => by
    have hx0 := hx x (List.mem_cons_self ..)
    have hy0 := hy y (List.mem_cons_self ..)
    have e' : x ++ c :: joinL c (z :: r) = y ++ c :: joinL c (u :: t) := e
    have cut : ∀ (a b p q : List Nat), c ∉ a → c ∉ b → a ++ c :: p = b ++ c :: q → a = b ∧ p = q := by
      intro a
      induction a with
      | nil =>
        intro b p q _ hb h
        cases b with
        | nil => simp at h; exact ⟨rfl, h⟩
        | cons d b => simp at h; exact absurd (h.1 ▸ List.mem_cons_self ..) hb
      | cons d a ih =>
        intro b p q ha hb h
        cases b with
        | nil => simp at h; exact absurd (h.1 ▸ List.mem_cons_self ..) ha
        | cons f b =>
          simp only [List.cons_append, List.cons.injEq] at h
          obtain ⟨h1, h2⟩ := ih b p q (fun z => ha (List.mem_cons_of_mem _ z)) (fun z => hb (List.mem_cons_of_mem _ z)) h.2
          exact ⟨by rw [h.1, h1], h2⟩
    obtain ⟨h1, h2⟩ := cut x y _ _ hx0 hy0 e'
    rw [h1, joinL_inj c (z :: r) (u :: t) (by simp) (by simp) (fun p hp => hx p (List.mem_cons_of_mem _ hp)) (fun p hp => hy p (List.mem_cons_of_mem _ hp)) h2]
theorem split_ne (x y : Str) : Txt.split x y ≠ [] := by
  unfold Txt.split
  split
  · simp
  · split
    · simp
    · rw [StrLaws.partsBetween_eq]
      obtain ⟨p, r, e⟩ := StrLaws.partsFrom_ne x y.length 0 (Builtin.Str.occurrences x y 0 x.length (x.length + 1))
      rw [e]; simp
/-- a text's cut at a sign -/
theorem split_S (c : Nat) {ps : List (List Nat)} (hne : ps ≠ []) (hf : ∀ p ∈ ps, c ∉ p) : Txt.split (S (joinL c ps)) ⟨#[c]⟩ = ps.map S := by
  have hj := StrLaws.join_split (S (joinL c ps)) ⟨#[c]⟩
  have hfr := StrLaws.split_free (S (joinL c ps)) c
  have hn := split_ne (S (joinL c ps)) ⟨#[c]⟩
  generalize Txt.split (S (joinL c ps)) ⟨#[c]⟩ = qs at *
  have e : qs = (qs.map fun q => q.cps.toList).map S := by
    rw [List.map_map]
    have : (S ∘ fun q : Str => q.cps.toList) = id := by funext q; exact S_of q
    rw [this, List.map_id]
  rw [e] at hj ⊢
  rw [join_S] at hj
  have := joinL_inj c _ _ (by simpa using hn) hne (fun p hp => by
    obtain ⟨q, hq, rfl⟩ := List.mem_map.mp hp
    exact hfr q hq) hf (S_inj hj)
  rw [this]
theorem joinL_cons (c d : Nat) (p : List Nat) (r : List (List Nat)) : joinL c ((d :: p) :: r) = d :: joinL c (p :: r) := by
  cases r <;> rfl
theorem cut_exists (c : Nat) : ∀ l : List Nat, ∃ ps, ps ≠ [] ∧ (∀ p ∈ ps, c ∉ p) ∧ joinL c ps = l ∧ ps.length = l.count c + 1
  | [] => ⟨[[]], by simp, by simp, rfl, by simp⟩
  | d :: l => by
    obtain ⟨ps, h1, h2, h3, h4⟩ := cut_exists c l
    by_cases q : d = c
    · subst q
      refine ⟨[] :: ps, by simp, ?_, ?_, by simp [h4]⟩
      · intro p hp
        rcases List.mem_cons.mp hp with rfl | hp
        · simp
        · exact h2 p hp
      · cases ps with
        | nil => exact absurd rfl h1
        | cons p r => show [] ++ d :: joinL d (p :: r) = _; rw [h3]; rfl
    · cases ps with
      | nil => exact absurd rfl h1
      | cons p r =>
        refine ⟨(d :: p) :: r, by simp, ?_, ?_, ?_⟩
        · intro p' hp
          rcases List.mem_cons.mp hp with rfl | hp
          · intro hm
            rcases List.mem_cons.mp hm with z | z
            · exact q z.symm
            · exact h2 p (List.mem_cons_self ..) z
          · exact h2 p' (List.mem_cons_of_mem _ hp)
        · rw [joinL_cons, h3]
        · simp only [List.length_cons] at h4 ⊢
          rw [h4, List.count_cons_of_ne (by simpa using q)]
theorem split_len (c : Nat) (l : List Nat) : (Txt.split (S l) ⟨#[c]⟩).length = l.count c + 1 := by
  obtain ⟨ps, h1, h2, h3, h4⟩ := cut_exists c l
  rw [← h3, split_S c h1 h2, List.length_map, h4, h3]
end Mine

namespace Mine
open PySem PySem.Calls PySem.W

/-! ### the tree -/
structure PT (P : List Int) : Prop where
  len : P.length = 6
  root : pAt P 0 = -1
  lt : ∀ k, 1 ≤ k → k < 6 → 0 ≤ pAt P k ∧ pAt P k < (k : Int)
noncomputable def par (P : List Int) (k : Nat) : Nat := (pAt P k).toNat
section
variable {P : List Int}
theorem PT.par_lt (D : PT P) {k : Nat} (h1 : 1 ≤ k) (h6 : k < 6) : par P k < k := by
  have := D.lt k h1 h6
  unfold par; lia
theorem above_mem {k j : Nat} : j ∈ above k ↔ k < j ∧ j < 6 := by
  constructor
  · exact above_lt
  · intro h
    unfold above
    exact List.mem_map.mpr ⟨j - (k + 1), List.mem_range.mpr (by lia), by lia⟩
theorem kid_iff (D : PT P) {k j : Nat} : j ∈ kidsP P k ↔ k < j ∧ j < 6 ∧ par P j = k := by
  unfold kidsP
  rw [List.mem_filter, above_mem]
  constructor
  · rintro ⟨⟨h1, h2⟩, h3⟩
    have h3 := of_decide_eq_true h3
    exact ⟨h1, h2, by unfold par; lia⟩
  · rintro ⟨h1, h2, h3⟩
    have := D.lt j (by lia) h2
    exact ⟨⟨h1, h2⟩, decide_eq_true (by unfold par at h3; lia)⟩
theorem kid_of (D : PT P) {k : Nat} (h1 : 1 ≤ k) (h6 : k < 6) : k ∈ kidsP P (par P k) := (kid_iff D).mpr ⟨D.par_lt h1 h6, h6, rfl⟩
theorem kids_nodup (P : List Int) (k : Nat) : (kidsP P k).Nodup := by
  unfold kidsP above
  refine List.Pairwise.filter _ (List.Pairwise.map (R := (· ≠ ·)) _ (fun a b h => ?_) (List.nodup_range (n := 5 - k)))
  lia

/-- r lies on the way from k up -/
inductive Anc (P : List Int) (r : Nat) : Nat → Prop
  | refl : Anc P r r
  | up {k : Nat} : 1 ≤ k → k < 6 → Anc P r (par P k) → Anc P r k
theorem Anc.le (D : PT P) {r k : Nat} (h : Anc P r k) : r ≤ k := by
  induction h with
  | refl => lia
  | up h1 h6 _ ih => have := D.par_lt h1 h6; lia
theorem Anc.kid (D : PT P) {r k : Nat} (h1 : 1 ≤ r) (h6 : r < 6) (h : Anc P r k) : Anc P (par P r) k := by
  induction h with
  | refl => exact .up h1 h6 .refl
  | up g1 g6 _ ih => exact .up g1 g6 ih
theorem Anc.of_kid (D : PT P) {r j k : Nat} (hj : j ∈ kidsP P r) (h : Anc P j k) : Anc P r k := by
  obtain ⟨h1, h2, h3⟩ := (kid_iff D).mp hj
  exact h3 ▸ h.kid D (by lia) h2
theorem Anc.inv {r k : Nat} (h : Anc P r k) : r = k ∨ (1 ≤ k ∧ k < 6 ∧ Anc P r (par P k)) := by
  cases h with
  | refl => exact .inl rfl
  | up a b c => exact .inr ⟨a, b, c⟩
theorem Anc.line (D : PT P) {r j k : Nat} (h : Anc P r k) (h2 : Anc P j k) (hle : r ≤ j) : Anc P r j := by
  induction h generalizing j with
  | refl => have := h2.le D; have : j = r := by lia
            rw [this]; exact .refl
  | up h1 h6 h ih =>
    rcases h2.inv with rfl | ⟨_, _, h2⟩
    · exact .up h1 h6 h
    · exact ih h2 hle
/-- two groups within the same one have nothing in common -/
theorem Anc.apart (D : PT P) {q r j k : Nat} (hr : r ∈ kidsP P q) (hj : j ∈ kidsP P q) (h1 : Anc P r k) (h2 : Anc P j k) : r = j := by
  obtain ⟨a1, a2, a3⟩ := (kid_iff D).mp hr
  obtain ⟨b1, b2, b3⟩ := (kid_iff D).mp hj
  have key : ∀ {r j : Nat}, q < r → q < j → par P j = q → Anc P r k → Anc P j k → r ≤ j → r = j := by
    intro r j c1 c2 c3 h1 h2 hle
    rcases (h1.line D h2 hle).inv with z | ⟨_, _, z⟩
    · exact z
    · have := z.le D; lia
  rcases Nat.le_total r j with h | h
  · exact key a1 b1 b3 h1 h2 h
  · exact (key b1 a1 a3 h2 h1 h).symm
theorem Anc.root (D : PT P) : ∀ {k : Nat}, k < 6 → Anc P 0 k := by
  intro k
  induction k using Nat.strongRecOn with
  | ind k ih =>
    intro h6
    by_cases h0 : k = 0
    · rw [h0]; exact .refl
    · have := D.par_lt (by lia) h6
      exact .up (by lia) h6 (ih _ this (by lia))
theorem Anc.via (D : PT P) {r k : Nat} (h : Anc P r k) (hne : r ≠ k) : ∃ j, j ∈ kidsP P r ∧ Anc P j k := by
  induction h with
  | refl => exact absurd rfl hne
  | @up k h1 h6 h ih =>
    by_cases q : r = par P k
    · exact ⟨k, q ▸ kid_of D h1 h6, .refl⟩
    · obtain ⟨j, hj, ha⟩ := ih q
      exact ⟨j, hj, .up h1 h6 ha⟩

/-! ### which groups are read -/
structure Vd (P : List Int) (b : Nat → Bool) : Prop where
  off : ∀ k, 6 ≤ k → b k = false
  down : ∀ k, 1 ≤ k → k < 6 → b (par P k) = true → b k = true
noncomputable def upd (b : Nat → Bool) (k : Nat) : Nat → Bool := fun x => x == k || b x
theorem upd_self (b : Nat → Bool) (k : Nat) : upd b k k = true := by simp [upd]
theorem upd_ne (b : Nat → Bool) {k x : Nat} (h : x ≠ k) : upd b k x = b x := by simp [upd, h]
structure Can (P : List Int) (b : Nat → Bool) (k : Nat) : Prop where
  lt : k < 6
  no : b k = false
  kids : ∀ j, j ∈ kidsP P k → b j = true
theorem Vd.up (D : PT P) {b : Nat → Bool} {k : Nat} (V : Vd P b) (C : Can P b k) : Vd P (upd b k) := by
  refine ⟨fun x hx => ?_, fun x h1 h6 hp => ?_⟩
  · rw [upd_ne b (by have := C.lt; lia)]; exact V.off x hx
  · by_cases q : x = k
    · rw [q]; exact upd_self b k
    · rw [upd_ne b q]
      by_cases q2 : par P x = k
      · exact C.kids x (q2 ▸ kid_of D h1 h6)
      · rw [upd_ne b q2] at hp
        exact V.down x h1 h6 hp
theorem Vd.anc (D : PT P) {b : Nat → Bool} (V : Vd P b) {r k : Nat} (h : Anc P r k) (hr : b r = true) : b k = true := by
  induction h with
  | refl => exact hr
  | up h1 h6 _ ih => exact V.down _ h1 h6 ih
theorem Vd.anc' (D : PT P) {b : Nat → Bool} (V : Vd P b) {r k : Nat} (h : Anc P r k) (hk : b k = false) : b r = false := by
  cases e : b r with
  | false => rfl
  | true => rw [V.anc D h e] at hk; cases hk
theorem Vd.none (P : List Int) : Vd P (fun _ => false) := ⟨fun _ _ => rfl, fun _ _ _ h => h⟩
noncomputable def whole : Nat → Bool := fun k => decide (k < 6)
theorem whole_lt {k : Nat} (h : k < 6) : whole k = true := decide_eq_true h
theorem Vd.whole (P : List Int) : Vd P whole := ⟨fun k h => by unfold Mine.whole; simp; lia, fun k _ h6 _ => whole_lt h6⟩
theorem Vd.ext {b b' : Nat → Bool} (V : Vd P b) (V' : Vd P b') (h : ∀ k, k < 6 → b k = b' k) : b = b' := by
  funext k
  by_cases q : k < 6
  · exact h k q
  · rw [V.off k (by lia), V'.off k (by lia)]
end
end Mine

namespace Mine
open PySem PySem.Calls PySem.W

/-! ### the text of a group when some are read -/
noncomputable abbrev PG (G : List Grp) : List Int := G.map (·.par)
noncomputable def mkG (G : List Grp) (k : Nat) : Nat := (G[k]?.map (·.mark)).getD 124
noncomputable def ntG (G : List Grp) (k : Nat) : List Nat := (G[k]?.map (·.note)).getD []
structure GT (G : List Grp) : Prop where
  six : G.length = 6
  tree : PT (PG G)
  at_ : ∀ (k : Nat) (g : Grp), G[k]? = some g → g.head = [40, g.mark, 97 + k] ∧ (g.mark = 124 ∨ g.mark = 33 ∨ g.mark = 47) ∧ (g.note = [] ∨ g.note = [34, 40, 34] ∨ g.note = [34, 40, 40, 34]) ∧ g.port < 60
noncomputable def hdF (G : List Grp) (k : Nat) : List Nat := 40 :: mkG G k :: (97 + k) :: (ntG G k ++ [mkG G k])
noncomputable def tlF (G : List Grp) (k : Nat) : List Nat := mkG G k :: (digs (portOf G k) ++ [mkG G k, 41])
noncomputable def fT (G : List Grp) (b : Nat → Bool) (k : Nat) (l : List (List Nat)) : List Nat := if b k = true then [97 + k] else hdF G k ++ (l.flatten ++ tlF G k)
noncomputable def T (G : List Grp) (b : Nat → Bool) (k : Nat) : List Nat := at6 (kidsP (PG G)) (fT G b) [] k

section
variable {G : List Grp} {b b' : Nat → Bool}
theorem mk_of (O : GT G) (k : Nat) : mkG G k = 124 ∨ mkG G k = 33 ∨ mkG G k = 47 := by
  unfold mkG
  cases e : G[k]? with
  | none => exact .inl rfl
  | some g => exact (O.at_ k g e).2.1
theorem nt_of (O : GT G) (k : Nat) : ntG G k = [] ∨ ntG G k = [34, 40, 34] ∨ ntG G k = [34, 40, 40, 34] := by
  unfold ntG
  cases e : G[k]? with
  | none => exact .inl rfl
  | some g => exact (O.at_ k g e).2.2.1
theorem port_of (O : GT G) (k : Nat) : portOf G k < 60 := by
  unfold portOf
  cases e : G[k]? with
  | none => decide
  | some g => exact (O.at_ k g e).2.2.2
theorem digs_ok : ∀ n, n < 60 → ∀ c ∈ digs n, 48 ≤ c ∧ c ≤ 57 := by decide +kernel
theorem digs_int : ∀ n, n < 60 → PySem.intText? (S (digs n)) = some (n : Int) := by decide +kernel
theorem digs_ne : ∀ n, n < 60 → (digs n).length ≤ 2 := by decide +kernel

theorem T_eq (k : Nat) (hk : k < 6) : T G b k = if b k = true then [97 + k] else hdF G k ++ (((kidsP (PG G) k).map (T G b)).flatten ++ tlF G k) :=
  at6_eq (kidsP_down (PG G)) hk
theorem T_read {k : Nat} (hk : k < 6) (h : b k = true) : T G b k = [97 + k] := by rw [T_eq k hk, if_pos h]
theorem T_open {k : Nat} (hk : k < 6) (h : b k = false) : T G b k = hdF G k ++ (((kidsP (PG G) k).map (T G b)).flatten ++ tlF G k) := by rw [T_eq k hk, if_neg (by rw [h]; decide)]

/-- from the innermost groups outward -/
theorem inward {P : List Int} {p : Nat → Prop} (h : ∀ k, k < 6 → (∀ j, j ∈ kidsP P k → p j) → p k) : ∀ k, k < 6 → p k := by
  intro k hk
  have go : ∀ n k, k < 6 → 6 - k ≤ n → p k := by
    intro n
    induction n with
    | zero => intro k h1 h2; lia
    | succ n ih =>
      intro k h1 h2
      exact h k h1 fun j hj => by
        have := (kidsP_down P).lt k j hj
        exact ih j this.2 (by lia)
  exact go 6 k hk (by lia)

theorem T_congr (O : GT G) : ∀ k, k < 6 → (∀ x, Anc (PG G) k x → b' x = b x) → T G b' k = T G b k := by
  refine inward (P := PG G) fun k hk ih h => ?_
  rw [T_eq k hk, T_eq k hk, h k .refl]
  split
  · rfl
  · congr 3
    refine List.map_congr_left fun j hj => ?_
    exact ih j hj fun x hx => h x (hx.of_kid O.tree hj)

/-! letters -/
theorem let_hd (O : GT G) {x k : Nat} (hx : x < 6) (h : 97 + x ∈ hdF G k) : x = k := by
  unfold hdF at h
  have h1 := mk_of O k
  have h2 := nt_of O k
  simp only [List.mem_cons, List.mem_append, List.not_mem_nil, or_false] at h
  rcases h with h | h | h | h | h
  · lia
  · lia
  · lia
  · rcases h2 with e | e | e <;> rw [e] at h <;> simp at h <;> lia
  · lia
theorem let_tl (O : GT G) {x k : Nat} (hx : x < 6) (h : 97 + x ∈ tlF G k) : False := by
  unfold tlF at h
  have h1 := mk_of O k
  simp only [List.mem_cons, List.mem_append, List.not_mem_nil, or_false] at h
  rcases h with h | h | h | h
  · lia
  · have := digs_ok _ (port_of O k) _ h; lia
  · lia
  · lia
theorem let_T (O : GT G) {x : Nat} (hx : x < 6) : ∀ k, k < 6 → 97 + x ∈ T G b k → x = k ∨ (k < x ∧ Anc (PG G) k (par (PG G) x) ∧ b (par (PG G) x) = false) := by
  refine inward (P := PG G) fun k hk ih h => ?_
  cases e : b k with
  | true => rw [T_read hk e] at h; simp at h; exact .inl h
  | false =>
    rw [T_open hk e] at h
    rcases List.mem_append.mp h with h | h
    · exact .inl (let_hd O hx h)
    · rcases List.mem_append.mp h with h | h
      · obtain ⟨l, hl, hm⟩ := List.mem_flatten.mp h
        obtain ⟨j, hj, rfl⟩ := List.mem_map.mp hl
        obtain ⟨j1, j2, j3⟩ := (kid_iff O.tree).mp hj
        rcases ih j hj hm with rfl | ⟨h1, h2, h3⟩
        · exact .inr ⟨j1, j3 ▸ .refl, j3 ▸ e⟩
        · exact .inr ⟨by lia, h2.of_kid O.tree hj, h3⟩
      · exact (let_tl O hx h).elim
theorem let_anc (O : GT G) {x k : Nat} (hx : x < 6) (hk : k < 6) (h : 97 + x ∈ T G b k) : Anc (PG G) k x := by
  rcases let_T O hx k hk h with rfl | ⟨h1, h2, _⟩
  · exact .refl
  · exact .up (by lia) hx h2

/-! brackets outside of quotation marks -/
noncomputable def Bal (l : List Nat) (d : Int) : Prop := ∃ gs tail, l.map (·.toUInt8) = enc gs tail ∧ EncOk gs tail ∧ cnt (plain gs tail) = d
theorem enc_app : ∀ (gs : List (List UInt8 × List UInt8)) (t : List UInt8) (p q : List UInt8) (gs' : List (List UInt8 × List UInt8)) (t' : List UInt8), enc gs t ++ enc ((p, q) :: gs') t' = enc (gs ++ (t ++ p, q) :: gs') t'
  | [], t, p, q, gs', t' => by simp [enc]
  | (a, c) :: gs, t, p, q, gs', t' => by
    show (a ++ 34 :: (c ++ 34 :: enc gs t)) ++ _ = a ++ 34 :: (c ++ 34 :: enc (gs ++ (t ++ p, q) :: gs') t')
    rw [← enc_app gs t p q gs' t']; simp
theorem enc_app0 : ∀ (gs : List (List UInt8 × List UInt8)) (t t' : List UInt8), enc gs t ++ t' = enc gs (t ++ t')
  | [], t, t' => rfl
  | (a, c) :: gs, t, t' => by
    show (a ++ 34 :: (c ++ 34 :: enc gs t)) ++ _ = a ++ 34 :: (c ++ 34 :: enc gs (t ++ t'))
    rw [← enc_app0 gs t t']; simp
theorem plain_app : ∀ (gs : List (List UInt8 × List UInt8)) (t : List UInt8) (p q : List UInt8) (gs' : List (List UInt8 × List UInt8)) (t' : List UInt8), plain (gs ++ (t ++ p, q) :: gs') t' = plain gs t ++ plain ((p, q) :: gs') t'
  | [], t, p, q, gs', t' => by simp [plain]
  | (a, c) :: gs, t, p, q, gs', t' => by
    show a ++ plain (gs ++ (t ++ p, q) :: gs') t' = (a ++ plain gs t) ++ _
    rw [plain_app gs t p q gs' t']; simp
theorem plain_app0 : ∀ (gs : List (List UInt8 × List UInt8)) (t t' : List UInt8), plain gs (t ++ t') = plain gs t ++ t'
  | [], t, t' => rfl
  | (a, c) :: gs, t, t' => by
    show a ++ plain gs (t ++ t') = (a ++ plain gs t) ++ t'
    rw [plain_app0 gs t t']; simp
theorem cnt_app (a c : List UInt8) : cnt (a ++ c) = cnt a + cnt c := by
  unfold cnt
  rw [List.count_append, List.count_append]
  lia
theorem Bal.nil : Bal [] 0 := ⟨[], [], rfl, ⟨fun _ h => (by cases h), fun _ h => (by cases h)⟩, rfl⟩
theorem Bal.app {l l' : List Nat} {d d' : Int} (h : Bal l d) (h' : Bal l' d') : Bal (l ++ l') (d + d') := by
  obtain ⟨gs, t, e, ok, c⟩ := h
  obtain ⟨gs', t', e', ok', c'⟩ := h'
  cases gs' with
  | nil =>
    refine ⟨gs, t ++ t', ?_, ⟨ok.1, fun c hc => ?_⟩, ?_⟩
    · rw [List.map_append, e, e', ← enc_app0]; rfl
    · rcases List.mem_append.mp hc with hc | hc
      · exact ok.2 c hc
      · exact ok'.2 c hc
    · rw [plain_app0, cnt_app, c]; rw [← c']; rfl
  | cons g gs' =>
    obtain ⟨p, q⟩ := g
    refine ⟨gs ++ (t ++ p, q) :: gs', t', ?_, ⟨fun g hg => ?_, ok'.2⟩, ?_⟩
    · rw [List.map_append, e, e', enc_app]
    · rcases List.mem_append.mp hg with hg | hg
      · exact ok.1 g hg
      · rcases List.mem_cons.mp hg with rfl | hg
        · have := ok'.1 (p, q) (List.mem_cons_self ..)
          refine ⟨fun c hc => ?_, this.2⟩
          rcases List.mem_append.mp hc with hc | hc
          · exact ok.2 c hc
          · exact this.1 c hc
        · exact ok'.1 g (List.mem_cons_of_mem _ hg)
    · rw [plain_app, cnt_app, c, c']
theorem Bal.flat {f : Nat → List Nat} : ∀ {l : List Nat}, (∀ j ∈ l, Bal (f j) 0) → Bal ((l.map f).flatten) 0
  | [], _ => Bal.nil
  | j :: l, h => by
    have := (h j (List.mem_cons_self ..)).app (Bal.flat (l := l) fun i hi => h i (List.mem_cons_of_mem _ hi))
    simpa using this
noncomputable def balNone (l : List Nat) (d : Int) : Bool := (l.map (·.toUInt8)).all (fun c => c != 34) && cnt (l.map (·.toUInt8)) == d
theorem bal_none {l : List Nat} {d : Int} (h : balNone l d = true) : Bal l d := by
  unfold balNone at h
  obtain ⟨h1, h2⟩ := Bool.and_eq_true_iff.mp h
  refine ⟨[], _, rfl, ⟨fun _ h => (by cases h), fun c hc => ?_⟩, eq_of_beq h2⟩
  have := List.all_eq_true.mp h1 c hc
  simpa using this
theorem bal_note1 : Bal [34, 40, 34] 0 := ⟨[([], [40])], [], rfl, ⟨fun g hg => by
  cases List.mem_singleton.mp hg
  exact ⟨fun _ h => (by cases h), by decide⟩, fun _ h => (by cases h)⟩, by decide +kernel⟩
theorem bal_note2 : Bal [34, 40, 40, 34] 0 := ⟨[([], [40, 40])], [], rfl, ⟨fun g hg => by
  cases List.mem_singleton.mp hg
  exact ⟨fun _ h => (by cases h), by decide⟩, fun _ h => (by cases h)⟩, by decide +kernel⟩
theorem bal_start : ∀ k, k < 6 → ∀ m ∈ [124, 33, 47], balNone [40, m, 97 + k] 1 = true := by decide +kernel
theorem bal_mark : ∀ m ∈ [124, 33, 47], balNone [m] 0 = true := by decide +kernel
theorem bal_let : ∀ k, k < 6 → balNone [97 + k] 0 = true := by decide +kernel
theorem bal_end : ∀ n, n < 60 → ∀ m ∈ [124, 33, 47], balNone (m :: (digs n ++ [m, 41])) (-1) = true := by decide +kernel
theorem mk_mem (O : GT G) (k : Nat) : mkG G k ∈ [124, 33, 47] := by
  rcases mk_of O k with e | e | e <;> rw [e] <;> decide
theorem bal_hd (O : GT G) {k : Nat} (hk : k < 6) : Bal (hdF G k) 1 := by
  have h1 := bal_none (bal_start k hk _ (mk_mem O k))
  have h3 := bal_none (bal_mark _ (mk_mem O k))
  have h2 : Bal (ntG G k) 0 := by
    rcases nt_of O k with e | e | e <;> rw [e]
    · exact Bal.nil
    · exact bal_note1
    · exact bal_note2
  exact h1.app (h2.app h3)
theorem bal_tl (O : GT G) (k : Nat) : Bal (tlF G k) (-1) := bal_none (bal_end _ (port_of O k) _ (mk_mem O k))
theorem bal_T (O : GT G) : ∀ k, k < 6 → Bal (T G b k) 0 := by
  refine inward (P := PG G) fun k hk ih => ?_
  cases e : b k with
  | true => rw [T_read hk e]; exact bal_none (bal_let k hk)
  | false =>
    rw [T_open hk e]
    exact (bal_hd O hk).app ((Bal.flat ih).app (bal_tl O k))

/-! how deep a group lies -/
noncomputable def depF (P : List Int) : Nat → Nat → Int
  | 0, _ => 0
  | n + 1, k => if k = 0 then 0 else depF P n (par P k) + 1
noncomputable def dep (P : List Int) (k : Nat) : Int := depF P k k
theorem depF_more {P : List Int} (D : PT P) : ∀ k, k < 6 → ∀ n m, k ≤ n → k ≤ m → depF P n k = depF P m k := by
  intro k
  induction k using Nat.strongRecOn with
  | ind k ih =>
    intro h6 n m hn hm
    by_cases h0 : k = 0
    · subst h0
      cases n <;> cases m <;> rfl
    · have := D.par_lt (k := k) (by lia) h6
      obtain ⟨n, rfl⟩ : ∃ x, n = x + 1 := ⟨n - 1, by lia⟩
      obtain ⟨m, rfl⟩ : ∃ x, m = x + 1 := ⟨m - 1, by lia⟩
      show (if k = 0 then 0 else depF P n (par P k) + 1) = (if k = 0 then 0 else depF P m (par P k) + 1)
      rw [ih _ this (by lia) n m (by lia) (by lia)]
theorem dep_zero (P : List Int) : dep P 0 = 0 := rfl
theorem dep_succ {P : List Int} (D : PT P) {k : Nat} (h1 : 1 ≤ k) (h6 : k < 6) : dep P k = dep P (par P k) + 1 := by
  cases k with
  | zero => lia
  | succ k =>
    have := D.par_lt (k := k + 1) (by lia) h6
    show (if k + 1 = 0 then 0 else depF P k (par P (k + 1)) + 1) = depF P _ _ + 1
    rw [if_neg (by lia), depF_more D (par P (k + 1)) (by lia) k (par P (k + 1)) (by lia) (Nat.le_refl _)]

/-! where a group stands -/
theorem T_path (O : GT G) : ∀ k, k < 6 → (∀ r, Anc (PG G) r k → r ≠ k → b r = false) → ∃ pre post, (∀ b' : Nat → Bool, (∀ x, ¬ Anc (PG G) k x → b' x = b x) → T G b' 0 = pre ++ (T G b' k ++ post)) ∧
    (∀ x, x < 6 → Anc (PG G) k x → 97 + x ∉ pre) ∧ Bal pre (dep (PG G) k) := by
  intro k
  induction k using Nat.strongRecOn with
  | ind k ih =>
    intro h6 hop
    by_cases h0 : k = 0
    · subst h0
      exact ⟨[], [], fun b' _ => (by simp), fun _ _ _ h => (by cases h), Bal.nil⟩
    · have h1 : 1 ≤ k := by lia
      have hlt := O.tree.par_lt h1 h6
      have hq : b (par (PG G) k) = false := hop _ (.up h1 h6 .refl) (by lia)
      obtain ⟨pre, post, e, hno, hb⟩ := ih (par (PG G) k) hlt (by lia) (fun r hr hne => hop r (.up h1 h6 hr) (by have := hr.le O.tree; lia))
      have hkid := kid_of O.tree h1 h6
      obtain ⟨l1, l2, hl⟩ := List.append_of_mem hkid
      have hnd := kids_nodup (PG G) (par (PG G) k)
      rw [hl] at hnd
      have hsub : ∀ j, j ∈ l1 ∨ j ∈ l2 → j ∈ kidsP (PG G) (par (PG G) k) ∧ j ≠ k := by
        intro j hj
        rw [hl]
        rcases hj with hj | hj
        · exact ⟨List.mem_append.mpr (.inl hj), fun z => (List.nodup_append.mp hnd).2.2 j hj k (List.mem_cons_self ..) z⟩
        · exact ⟨List.mem_append.mpr (.inr (List.mem_cons_of_mem _ hj)), fun z => (List.nodup_cons.mp (List.nodup_append.mp hnd).2.1).1 (z ▸ hj)⟩
      have hoff : ∀ j, j ∈ l1 ∨ j ∈ l2 → ∀ x, Anc (PG G) j x → ¬ Anc (PG G) k x := fun j hj x hx hk =>
        (hsub j hj).2 (Anc.apart O.tree (hsub j hj).1 hkid hx hk)
      refine ⟨pre ++ (hdF G (par (PG G) k) ++ (l1.map (T G b)).flatten), (l2.map (T G b)).flatten ++ (tlF G (par (PG G) k) ++ post), fun b' hag => ?_, fun x hx hkx hm => ?_, ?_⟩
      · have hp : b' (par (PG G) k) = false := by rw [hag _ (fun z => by have := z.le O.tree; lia)]; exact hq
        rw [e b' fun x hx => hag x fun z => hx (.of_kid O.tree hkid z), T_open (by lia) hp, hl]
        have c1 : l1.map (T G b') = l1.map (T G b) := List.map_congr_left fun j hj => by
          have := (kid_iff O.tree).mp (hsub j (.inl hj)).1
          exact T_congr O j this.2.1 fun x hx => hag x (hoff j (.inl hj) x hx)
        have c2 : l2.map (T G b') = l2.map (T G b) := List.map_congr_left fun j hj => by
          have := (kid_iff O.tree).mp (hsub j (.inr hj)).1
          exact T_congr O j this.2.1 fun x hx => hag x (hoff j (.inr hj) x hx)
        rw [List.map_append, List.map_cons, c1, c2]
        simp [List.append_assoc]
      · have hxk := hkx.le O.tree
        rcases List.mem_append.mp hm with hm | hm
        · exact hno x hx (.of_kid O.tree hkid hkx) hm
        · rcases List.mem_append.mp hm with hm | hm
          · have := let_hd O hx hm; lia
          · obtain ⟨l, hl', hm⟩ := List.mem_flatten.mp hm
            obtain ⟨j, hj, rfl⟩ := List.mem_map.mp hl'
            have := (kid_iff O.tree).mp (hsub j (.inl hj)).1
            exact hoff j (.inl hj) x (let_anc O hx this.2.1 hm) hkx
      · rw [dep_succ O.tree h1 h6]
        have := hb.app ((bal_hd O (k := par (PG G) k) (by lia)).app (Bal.flat (l := l1) fun j hj => bal_T (b := b) O j ((kid_iff O.tree).mp (hsub j (.inl hj)).1).2.1))
        simpa using this

/-- the text that the law writes -/
theorem hd_at {k : Nat} {g : Grp} (O : GT G) (h : G[k]? = some g) : hdF G k = g.head ++ g.note ++ [g.mark] ∧ tlF G k = [g.mark] ++ digs g.port ++ [g.mark] ++ [41] := by
  have e := (O.at_ k g h).1
  unfold hdF tlF mkG ntG portOf
  rw [h, e]
  simp
theorem kids_eq (G : List Grp) (k : Nat) : kids G k = kidsP (PG G) k := by
  unfold kids kidsP
  refine List.filter_congr fun j _ => ?_
  have : parAt G j = pAt (PG G) j := by unfold parAt pAt; rw [List.getElem?_map]
  rw [this]
theorem text_eq (O : GT G) : ∀ n k, k < 6 → 6 - k ≤ n → textL G n k = tr (kidsP (PG G)) (fT G fun _ => false) [] n k
  | 0, k, hk, h => by lia
  | n + 1, k, hk, h => by
    obtain ⟨g, hg⟩ : ∃ g, G[k]? = some g := ⟨_, List.getElem?_eq_getElem (by rw [O.six]; exact hk)⟩
    have e1 : textL G (n + 1) k = g.head ++ g.note ++ [g.mark] ++ (((kids G k).map (textL G n)).flatten) ++ [g.mark] ++ digs g.port ++ [g.mark] ++ [41] := by
      conv => lhs; unfold textL
      rw [hg]
    have e2 : tr (kidsP (PG G)) (fT G fun _ => false) [] (n + 1) k = hdF G k ++ ((((kidsP (PG G) k).map (tr (kidsP (PG G)) (fT G fun _ => false) [] n)).flatten) ++ tlF G k) := rfl
    have e3 : (kidsP (PG G) k).map (textL G n) = (kidsP (PG G) k).map (tr (kidsP (PG G)) (fT G fun _ => false) [] n) := List.map_congr_left fun j hj => by
      have := (kidsP_down (PG G)).lt k j hj
      exact text_eq O n j this.2 (by lia)
    rw [e1, e2, kids_eq, e3, (hd_at O hg).1, (hd_at O hg).2]
    simp [List.append_assoc]
theorem text_T (O : GT G) : textL G 6 0 = T G (fun _ => false) 0 := text_eq O 6 0 (by lia) (by lia)
theorem GT.ok (O : GT G) : GOk G := ⟨O.six, fun k g h => by
  obtain ⟨h1, h2, h3, h4⟩ := O.at_ k g h
  refine ⟨by rw [h1]; simp, ?_, h4⟩
  rcases h3 with e | e | e <;> rw [e] <;> simp⟩
end
end Mine

namespace Mine
open PySem PySem.Calls PySem.W

section
variable {G : List Grp} {b : Nat → Bool}
noncomputable def lenC : Nat → Nat
  | 0 => 0
  | n + 1 => 17 + n * lenC n
theorem hd_len (O : GT G) (k : Nat) : (hdF G k).length ≤ 8 := by
  unfold hdF
  rcases nt_of O k with e | e | e <;> rw [e] <;> simp
theorem tl_len (O : GT G) (k : Nat) : (tlF G k).length ≤ 5 := by
  unfold tlF
  have := digs_ne _ (port_of O k)
  simp; lia
theorem T_len (O : GT G) : ∀ n k, k < 6 → 6 - k ≤ n → (T G b k).length ≤ lenC n
  | 0, k, hk, h => by lia
  | n + 1, k, hk, h => by
    cases e : b k with
    | true => rw [T_read hk e]; simp [lenC]; lia
    | false =>
      rw [T_open hk e]
      have h1 := hd_len O k
      have h2 := tl_len O k
      have h3 : (kidsP (PG G) k).length ≤ n := by
        unfold kidsP
        refine Nat.le_trans (List.length_filter_le _ _) ?_
        rw [above_len]; lia
      have h4 := flat_len (T G b) (lenC n) (kidsP (PG G) k) fun j hj => by
        have := (kidsP_down (PG G)).lt k j hj
        exact T_len O n j this.2 (by lia)
      have h5 : (kidsP (PG G) k).length * lenC n ≤ n * lenC n := Nat.mul_le_mul_right _ h3
      simp only [List.length_append, lenC]
      lia
theorem T_small (O : GT G) {k : Nat} (hk : k < 6) : (T G b k).length ≤ 6000 := by
  have := T_len (b := b) O 6 k hk (by lia)
  have e : lenC 6 = 5542 := by decide
  lia

theorem flat_read {l : List Nat} (hl : ∀ j ∈ l, j < 6) (h : ∀ j ∈ l, b j = true) : (l.map (T G b)).flatten = l.map fun j => 97 + j := by
  induction l with
  | nil => rfl
  | cons j l ih =>
    rw [List.map_cons, List.flatten_cons, T_read (hl j (List.mem_cons_self ..)) (h j (List.mem_cons_self ..)), ih (fun i hi => hl i (List.mem_cons_of_mem _ hi)) fun i hi => h i (List.mem_cons_of_mem _ hi)]
    rfl
theorem first_open : ∀ (l : List Nat), (∃ x ∈ l, b x = false) → ∃ l1 j l2, l = l1 ++ j :: l2 ∧ (∀ i ∈ l1, b i = true) ∧ b j = false
  | [], h => by obtain ⟨x, hx, _⟩ := h; cases hx
  | x :: l, h => by
    cases e : b x with
    | false => exact ⟨[], x, l, rfl, fun _ h => (by cases h), e⟩
    | true =>
      obtain ⟨y, hy, ey⟩ := h
      rcases List.mem_cons.mp hy with rfl | hy
      · rw [e] at ey; cases ey
      · obtain ⟨l1, j, l2, h1, h2, h3⟩ := first_open l ⟨y, hy, ey⟩
        refine ⟨x :: l1, j, l2, by rw [h1]; rfl, fun i hi => ?_, h3⟩
        rcases List.mem_cons.mp hi with rfl | hi
        · exact e
        · exact h2 i hi
theorem no41_hd (O : GT G) {k : Nat} (hk : k < 6) : 41 ∉ hdF G k := by
  unfold hdF
  intro h
  have h1 := mk_of O k
  have h2 := nt_of O k
  simp only [List.mem_cons, List.mem_append, List.not_mem_nil, or_false] at h
  rcases h with h | h | h | h | h
  · lia
  · lia
  · lia
  · rcases h2 with e | e | e <;> rw [e] at h <;> simp at h
  · lia
theorem no41_let (l : List Nat) : 41 ∉ l.map fun j => 97 + j := by
  intro h
  obtain ⟨j, _, h⟩ := List.mem_map.mp h
  lia
theorem cnt_hd (O : GT G) (k : Nat) : 2 ≤ (hdF G k).count (mkG G k) := by
  unfold hdF
  have h1 : (40 :: mkG G k :: (97 + k) :: (ntG G k ++ [mkG G k])) = [40] ++ ([mkG G k] ++ ([97 + k] ++ (ntG G k ++ [mkG G k]))) := rfl
  rw [h1]
  simp only [List.count_append, List.count_singleton_self]
  lia

/-- the first closing bracket behind a group's own -/
theorem first_close (O : GT G) : ∀ k, k < 6 → b k = false → ∃ y v z' m, T G b k = (hdF G k ++ y) ++ 41 :: v ∧ 41 ∉ hdF G k ++ y ∧ hdF G k ++ y = z' ++ [m] ∧ 4 ≤ (hdF G k ++ y).count m ∧
    ((∀ j ∈ kidsP (PG G) k, b j = true) ∨ (m = mkG G k → 6 ≤ (hdF G k ++ y).count m)) := by
  refine inward (P := PG G) fun k hk ih hb => ?_
  rw [T_open hk hb]
  have hkl : ∀ j ∈ kidsP (PG G) k, j < 6 := fun j hj => ((kidsP_down (PG G)).lt k j hj).2
  by_cases hall : ∀ j ∈ kidsP (PG G) k, b j = true
  · rw [flat_read hkl hall]
    refine ⟨(kidsP (PG G) k).map (fun j => 97 + j) ++ mkG G k :: (digs (portOf G k) ++ [mkG G k]), [], hdF G k ++ ((kidsP (PG G) k).map (fun j => 97 + j) ++ mkG G k :: digs (portOf G k)), mkG G k, ?_, ?_, ?_, ?_, .inl hall⟩
    · unfold tlF; simp [List.append_assoc]
    · intro h
      rcases List.mem_append.mp h with h | h
      · exact no41_hd O hk h
      · rcases List.mem_append.mp h with h | h
        · exact no41_let _ h
        · have h1 := mk_of O k
          simp only [List.mem_cons, List.mem_append, List.not_mem_nil, or_false] at h
          rcases h with h | h | h
          · lia
          · have := digs_ok _ (port_of O k) _ h; lia
          · lia
    · simp [List.append_assoc]
    · have := cnt_hd O k
      rw [List.count_append, List.count_append, List.count_cons_self, List.count_append, List.count_singleton_self]
      lia
  · obtain ⟨l1, j, l2, e, h1, h2⟩ := first_open (b := b) (kidsP (PG G) k) (by
      refine Classical.byContradiction fun hn => hall fun j hj => ?_
      cases ej : b j with
      | true => rfl
      | false => exact absurd ⟨j, hj, ej⟩ hn)
    have hj : j ∈ kidsP (PG G) k := by rw [e]; simp
    obtain ⟨y, v, z', m, t1, t2, t3, t4, _⟩ := ih j hj h2
    rw [e, List.map_append, List.flatten_append, flat_read (fun i hi => hkl i (by rw [e]; exact List.mem_append.mpr (.inl hi))) h1, List.map_cons, List.flatten_cons, t1]
    refine ⟨l1.map (fun j => 97 + j) ++ (hdF G j ++ y), v ++ ((l2.map (T G b)).flatten ++ tlF G k), hdF G k ++ (l1.map (fun j => 97 + j) ++ z'), m, by simp [List.append_assoc], ?_, by rw [t3]; simp [List.append_assoc], ?_, .inr fun hm => ?_⟩
    · intro h
      rcases List.mem_append.mp h with h | h
      · exact no41_hd O hk h
      · rcases List.mem_append.mp h with h | h
        · exact no41_let _ h
        · exact t2 h
    · rw [List.count_append, List.count_append]; lia
    · have := cnt_hd O k
      rw [hm] at t4 ⊢
      rw [List.count_append, List.count_append]
      lia

/-! what parse229 sees -/
theorem e229 : Str.ofString "229 " = S [50, 50, 57, 32] := by decide +kernel
theorem e229' : Str.ofString "229" = S [50, 50, 57] := by decide +kernel
theorem e40 : Str.ofString "(" = S [40] := by decide +kernel
theorem e41' : Str.ofString ")" = S [41] := by decide +kernel
theorem ch_S (l : List Nat) (k : Nat) : chAt (S l) k = ⟨#[l.getD k 0]⟩ := by unfold chAt; rw [getD_S]
structure See (t : List Nat) (c m : Nat) (y z' v : List Nat) : Prop where
  cut : t = (40 :: c :: y) ++ 41 :: v
  no : 41 ∉ 40 :: c :: y
  last : 40 :: c :: y = z' ++ [m]
  len : t.length ≤ 99000
theorem see_at {t y z' v : List Nat} {c m : Nat} (s : See t c m y z' v) : Seen ("229 " ++ S t) 4 (y.length + 6) ∧ chAt ("229 " ++ S t) (4 + 1) = ⟨#[c]⟩ ∧ chAt ("229 " ++ S t) (y.length + 6 - 1) = ⟨#[m]⟩ ∧
    partsAt ("229 " ++ S t) 4 (y.length + 6) = Txt.split (S (c :: y)) ⟨#[c]⟩ := by
  obtain ⟨h1, h2, h3, h4⟩ := s
  have hx : ("229 " ++ S t : Str) = S ([50, 50, 57, 32] ++ t) := by
    show Str.ofString "229 " ++ S t = _
    rw [e229, S_app]
  have hl : ([50, 50, 57, 32] ++ t).length = y.length + 7 + v.length := by rw [h1]; simp; lia
  rw [hx]
  have c5 : chAt (S ([50, 50, 57, 32] ++ t)) (4 + 1) = ⟨#[c]⟩ := by rw [ch_S, h1]; rfl
  refine ⟨⟨by rw [S_len]; simp only [List.length_append, List.length_cons, List.length_nil]; lia, ?_, ?_, ?_, by rw [S_len, hl]; lia, by lia, by rw [S_len, hl]; lia⟩, c5, ?_, ?_⟩
  · have := slice_to (l := [50, 50, 57, 32] ++ t) (b := 3) (by simp)
    rw [show ((3 : Nat) : Int) = 3 from rfl] at this
    rw [this]
    show _ = Str.ofString "229"
    rw [e229']; rfl
  · show Txt.find _ (Str.ofString "(") = _
    rw [e40]
    refine find_at ?_ fun i hi x => ?_
    · rw [h1]; exact fits_mid [50, 50, 57, 32] [40] _
    · have := fits_at x (j := 0) (by simp)
      rw [Nat.add_zero] at this
      match i, hi with
      | 0, _ => simp at this
      | 1, _ => simp at this
      | 2, _ => simp at this
      | 3, _ => simp at this
  · show Txt.find3 _ (Str.ofString ")") _ = _
    rw [e41', ← one_S]
    have := find3_at (l := [50, 50, 57, 32] ++ t) (pre := [50, 50, 57, 32] ++ (40 :: c :: y)) (post := v) (c := 41) (a := 5) (by rw [h1]; simp) (by simp) (fun w h5 hw => by
      intro e
      have hm : ([50, 50, 57, 32] ++ (40 :: c :: y)).getD w 0 ∈ [50, 50, 57, 32] ++ (40 :: c :: y) := by
        rw [List.getD, List.getElem?_eq_getElem hw]; exact List.getElem_mem hw
      rw [e] at hm
      rcases List.mem_append.mp hm with hm | hm
      · simp at hm
      · exact h2 hm)
    refine Eq.trans this ?_
    simp; lia
  · rw [ch_S]
    congr 2
    have e : [50, 50, 57, 32] ++ t = ([50, 50, 57, 32] ++ z') ++ m :: (41 :: v) := by rw [h1, h3]; simp
    have hz : z'.length + 1 = y.length + 2 := by have := congrArg List.length h3; simp at this; lia
    rw [e]
    have hi : y.length + 6 - 1 = ([50, 50, 57, 32] ++ z').length := by simp; lia
    rw [hi]
    simp [List.getD]
  · unfold partsAt
    rw [c5]
    congr 1
    have := slice_ab (l := [50, 50, 57, 32] ++ t) (a := 5) (b := y.length + 6) (by lia) (by rw [hl]; lia)
    rw [show (((4 : Nat) : Int) + 1) = ((5 : Nat) : Int) from rfl, this]
    congr 1
    have e : [50, 50, 57, 32] ++ t = [50, 50, 57, 32, 40] ++ ((c :: y) ++ 41 :: v) := by rw [h1]; simp
    rw [e, show (5 : Nat) = [50, 50, 57, 32, 40].length from rfl, List.drop_left]
    have : y.length + 6 - [50, 50, 57, 32, 40].length = (c :: y).length := by simp
    rw [this, List.take_left]

theorem head_find (O : GT G) {k : Nat} (hk : k < 6) {pre rest : List Nat} (hno : 97 + k ∉ pre) : Txt.find (S (pre ++ ([40, mkG G k, 97 + k] ++ rest))) (S [40, mkG G k, 97 + k]) = (pre.length : Int) := by
  refine find_at (fits_mid _ _ _) fun i hi x => ?_
  have := fits_at x (j := 2) (by simp)
  have h1 := mk_of O k
  have e2 : ([40, mkG G k, 97 + k] : List Nat)[2]? = some (97 + k) := rfl
  rw [e2] at this
  by_cases q : i + 2 < pre.length
  · rw [List.getElem?_append_left q] at this
    exact hno (List.mem_of_getElem? this)
  · rw [List.getElem?_append_right (by lia)] at this
    have : i + 2 - pre.length = 0 ∨ i + 2 - pre.length = 1 := by lia
    rcases this with z | z
    · rw [z] at this; simp at this; lia
    · rw [z] at this; simp at this; lia
theorem hd_cut (k : Nat) : hdF G k = [40, mkG G k, 97 + k] ++ (ntG G k ++ [mkG G k]) := rfl

/-- a group that can be read -/
theorem rd_can (O : GT G) (V : Vd (PG G) b) {k : Nat} {g : Grp} (hg : G[k]? = some g) (C : Can (PG G) b k) : Rdg (S (T G b 0)) g k (some (S (T G (upd b k) 0))) := by
  have hk := C.lt
  obtain ⟨pre, post, e, hno, _⟩ := T_path (b := b) O k hk (fun r hr _ => V.anc' O.tree hr C.no)
  have e1 := e b (fun _ _ => rfl)
  have e2 := e (upd b k) (fun x hx => upd_ne b (fun z => hx (z ▸ .refl)))
  rw [T_read hk (upd_self b k)] at e2
  have hlen := T_small (b := b) O (k := 0) (by lia)
  have hhd : g.head = [40, mkG G k, 97 + k] := by have := (O.at_ k g hg).1; unfold mkG; rw [hg]; exact this
  have hport : portOf G k = g.port := by unfold portOf; rw [hg]; rfl
  have hkl : ∀ j ∈ kidsP (PG G) k, j < 6 := fun j hj => ((kidsP_down (PG G)).lt k j hj).2
  have hT := T_open (G := G) hk C.no
  rw [flat_read hkl C.kids] at hT
  have mm := mk_of O k
  -- the group's own text
  have hT2 : T G b k = (40 :: mkG G k :: ((97 + k) :: (ntG G k ++ [mkG G k]) ++ ((kidsP (PG G) k).map (fun j => 97 + j) ++ mkG G k :: (digs (portOf G k) ++ [mkG G k])))) ++ 41 :: [] := by
    rw [hT]; unfold hdF tlF; simp [List.append_assoc]
  generalize hy : ((97 + k) :: (ntG G k ++ [mkG G k]) ++ ((kidsP (PG G) k).map (fun j => 97 + j) ++ mkG G k :: (digs (portOf G k) ++ [mkG G k]))) = y at hT2
  rw [e1, List.length_append, List.length_append] at hlen
  have hno41 : 41 ∉ 40 :: mkG G k :: y := by
    intro h
    rw [← hy] at h
    simp only [List.mem_cons, List.mem_append, List.not_mem_nil, or_false] at h
    have := no41_let (kidsP (PG G) k)
    have h2 := nt_of O k
    rcases h with h | h | (h | h | h) | h | h | h | h
    · lia
    · lia
    · lia
    · rcases h2 with e | e | e <;> rw [e] at h <;> simp at h
    · lia
    · exact this h
    · lia
    · have := digs_ok _ (port_of O k) _ h; lia
    · lia
  have hsee : See (T G b k ++ post) (mkG G k) (mkG G k) y (40 :: mkG G k :: ((97 + k) :: (ntG G k ++ [mkG G k]) ++ ((kidsP (PG G) k).map (fun j => 97 + j) ++ mkG G k :: digs (portOf G k)))) post :=
    ⟨by rw [hT2]; simp, hno41, by rw [← hy]; simp [List.append_assoc], by rw [List.length_append]; lia⟩
  obtain ⟨s1, s2, s3, s4⟩ := see_at hsee
  have hfind : Txt.find (S (T G b 0)) (S g.head) = ((pre.length : Nat) : Int) := by
    rw [hhd, e1, hT, hd_cut]
    simp only [List.append_assoc]
    exact head_find O hk (hno k hk .refl)
  have hsl : Txt.slice (S (T G b 0)) (some ((pre.length : Nat) : Int)) none = S (T G b k ++ post) := by
    rw [slice_from (by rw [e1, List.length_append]; lia), e1, List.drop_left]
  have hq : Txt.find3 (S (T G b 0)) ")" ((pre.length : Nat) : Int) = ((pre.length + (y.length + 2) : Nat) : Int) := by
    show Txt.find3 _ (Str.ofString ")") _ = _
    rw [e41', ← one_S]
    have := find3_at (l := T G b 0) (pre := pre ++ (40 :: mkG G k :: y)) (post := post) (c := 41) (a := pre.length) (by rw [e1, hT2]; simp) (by simp) (fun w h5 hw => by
      intro e
      have hm : (pre ++ (40 :: mkG G k :: y)).getD w 0 ∈ 40 :: mkG G k :: y := by
        rw [List.getD, List.getElem?_eq_getElem hw, List.getElem_append_right h5]; exact List.getElem_mem _
      rw [e] at hm
      exact hno41 hm)
    refine Eq.trans this ?_
    simp; lia
  have hsplit : Txt.split (S (mkG G k :: y)) ⟨#[mkG G k]⟩ = [[], (97 + k) :: ntG G k, (kidsP (PG G) k).map (fun j => 97 + j), digs (portOf G k), []].map S := by
    have : mkG G k :: y = joinL (mkG G k) [[], (97 + k) :: ntG G k, (kidsP (PG G) k).map (fun j => 97 + j), digs (portOf G k), []] := by
      rw [← hy]; simp [joinL]
    rw [this]
    refine split_S _ (by simp) fun p hp => ?_
    have h2 := nt_of O k
    simp only [List.mem_cons, List.not_mem_nil, or_false] at hp
    rcases hp with rfl | rfl | rfl | rfl | rfl
    · simp
    · intro h
      rcases List.mem_cons.mp h with h | h
      · lia
      · rcases h2 with e | e | e <;> rw [e] at h <;> simp at h <;> lia
    · intro h
      obtain ⟨j, hj, h⟩ := List.mem_map.mp h
      have := hkl j hj
      lia
    · intro h
      have := digs_ok _ (port_of O k) _ h
      lia
    · simp
  have hres : S (T G (upd b k) 0) = Txt.slice (S (T G b 0)) none (some ((pre.length : Nat) : Int)) ++ letter k ++ Txt.slice (S (T G b 0)) (some (((pre.length + (y.length + 2) : Nat) : Int) + 1)) none := by
    have l1 := slice_to (l := T G b 0) (b := pre.length) (by rw [e1, List.length_append]; lia)
    have l2 := slice_from (l := T G b 0) (a := pre.length + (y.length + 2) + 1) (by rw [e1, hT2]; simp; lia)
    have el : letter k = S [97 + k] := by
      have : ∀ k, k < 6 → letter k = S [97 + k] := by decide +kernel
      exact this k hk
    rw [show (((pre.length + (y.length + 2) : Nat) : Int) + 1) = ((pre.length + (y.length + 2) + 1 : Nat) : Int) by lia, l1, l2, el, S_app, S_app, e2]
    congr 1
    rw [e1, List.take_left, hT2]
    have : pre ++ ((40 :: mkG G k :: y) ++ 41 :: [] ++ post) = (pre ++ (40 :: mkG G k :: y ++ [41])) ++ post := by simp
    rw [this]
    have hl : pre.length + (y.length + 2) + 1 = (pre ++ (40 :: mkG G k :: y ++ [41])).length := by simp; lia
    rw [hl, List.drop_left]
    simp
  rw [hres]
  refine Rdg.read pre.length 4 (y.length + 6) (pre.length + (y.length + 2)) (S (digs (portOf G k))) hfind (hsl ▸ s1) ?_ ?_ ?_ ?_ ?_ hq
  · rw [hsl, s2, s3]
  · rw [hsl, s4, hsplit]; rfl
  · rw [hsl, s4, hsplit]; rfl
  · rw [← hport]; exact digs_int _ (port_of O k)
  · rw [S_len]; have := digs_ne _ (port_of O k); lia

/-- a group with one within that was not read -/
theorem rd_bad (O : GT G) (V : Vd (PG G) b) {k : Nat} {g : Grp} (hg : G[k]? = some g) (hk : k < 6) (hb : b k = false) (hkid : ∃ j ∈ kidsP (PG G) k, b j = false) : Rdg (S (T G b 0)) g k none := by
  obtain ⟨pre, post, e, hno, _⟩ := T_path (b := b) O k hk (fun r hr _ => V.anc' O.tree hr hb)
  have e1 := e b (fun _ _ => rfl)
  have hlen := T_small (b := b) O (k := 0) (by lia)
  have hhd : g.head = [40, mkG G k, 97 + k] := by have := (O.at_ k g hg).1; unfold mkG; rw [hg]; exact this
  obtain ⟨y, v, z', m, t1, t2, t3, t4, t5⟩ := first_close O k hk hb
  rw [e1, List.length_append, List.length_append] at hlen
  have mm := mk_of O k
  have hy : hdF G k ++ y = 40 :: mkG G k :: ((97 + k) :: (ntG G k ++ [mkG G k]) ++ y) := by unfold hdF; simp
  have hsee : See (T G b k ++ post) (mkG G k) m ((97 + k) :: (ntG G k ++ [mkG G k]) ++ y) z' (v ++ post) :=
    ⟨by rw [t1, hy]; simp [List.append_assoc], hy ▸ t2, hy ▸ t3, by rw [List.length_append]; lia⟩
  obtain ⟨s1, s2, s3, s4⟩ := see_at hsee
  have hfind : Txt.find (S (T G b 0)) (S g.head) = ((pre.length : Nat) : Int) := by
    rw [hhd, e1, t1, hd_cut]
    simp only [List.append_assoc]
    exact head_find O hk (hno k hk .refl)
  have hsl : Txt.slice (S (T G b 0)) (some ((pre.length : Nat) : Int)) none = S (T G b k ++ post) := by
    rw [slice_from (by rw [e1, List.length_append]; lia), e1, List.drop_left]
  have hcnt : (hdF G k ++ y).count (mkG G k) = (mkG G k :: ((97 + k) :: (ntG G k ++ [mkG G k]) ++ y)).count (mkG G k) := by
    rw [hy, List.count_cons_of_ne (by lia)]
  refine Rdg.bad pre.length 4 (((97 + k) :: (ntG G k ++ [mkG G k]) ++ y).length + 6) hfind (hsl ▸ s1) ?_ ?_
  · rw [hsl, s2, s3, s4, split_len]
    by_cases q : m = mkG G k
    · refine .inr ?_
      rw [← hcnt]
      rcases t5 with z | z
      · obtain ⟨j, hj, ej⟩ := hkid
        rw [z j hj] at ej; cases ej
      · have := z q; rw [q] at this; lia
    · refine .inl fun z => q ?_
      have := congrArg Str.cps z
      simpa using this.symm
  · rw [hsl, s4, split_len]
    have := List.count_le_length (a := mkG G k) (l := mkG G k :: ((97 + k) :: (ntG G k ++ [mkG G k]) ++ y))
    have h2 : (T G b k).length = (hdF G k ++ y).length + (v.length + 1) := by rw [t1]; simp; lia
    rw [hy, List.length_cons] at h2
    lia
end
end Mine

namespace Mine
open PySem PySem.Calls PySem.W

/-! ### no group's start where the group is read -/
noncomputable def sc (k s c : Nat) : Nat := if s = 3 then 3 else if c = 40 then 1 else if s = 1 ∧ (c = 124 ∨ c = 33 ∨ c = 47) then 2 else if s = 2 ∧ c = 97 + k then 3 else 0
noncomputable def run (k s : Nat) (l : List Nat) : Nat := l.foldl (sc k) s
theorem run_app (k s : Nat) (l l' : List Nat) : run k s (l ++ l') = run k (run k s l) l' := by unfold run; rw [List.foldl_append]
theorem run_bad (k : Nat) : ∀ l, run k 3 l = 3
  | [] => rfl
  | c :: l => by show run k (sc k 3 c) l = 3; unfold sc; rw [if_pos rfl]; exact run_bad k l
theorem run_plain (k : Nat) : ∀ l : List Nat, 40 ∉ l → run k 0 l = 0
  | [], _ => rfl
  | c :: l, h => by
    show run k (sc k 0 c) l = 0
    have : sc k 0 c = 0 := by
      unfold sc
      rw [if_neg (by lia), if_neg (fun (e : c = 40) => h (by rw [e]; exact List.mem_cons_self ..)), if_neg (by lia), if_neg (by lia)]
    rw [this]
    exact run_plain k l fun z => h (List.mem_cons_of_mem _ z)
theorem run_start : ∀ k, k < 6 → ∀ j, j < 6 → j ≠ k → ∀ m ∈ [124, 33, 47], ∀ n ∈ [[], [34, 40, 34], [34, 40, 40, 34]], run k 0 (40 :: m :: (97 + j) :: (n ++ [m])) = 0 := by decide +kernel
theorem run_head {k m : Nat} (hk : k < 6) (hm : m = 124 ∨ m = 33 ∨ m = 47) (s : Nat) : run k s [40, m, 97 + k] = 3 := by
  by_cases q : s = 3
  · rw [q]; exact run_bad k _
  · have e1 : sc k s 40 = 1 := by unfold sc; rw [if_neg q, if_pos rfl]
    have e2 : sc k 1 m = 2 := by unfold sc; rw [if_neg (by lia), if_neg (by lia), if_pos ⟨rfl, hm⟩]
    have e3 : sc k 2 (97 + k) = 3 := by unfold sc; rw [if_neg (by lia), if_neg (by lia), if_neg (by lia), if_pos ⟨rfl, rfl⟩]
    show sc k (sc k (sc k s 40) m) (97 + k) = 3
    rw [e1, e2, e3]

section
variable {G : List Grp} {b b' : Nat → Bool}
theorem run_flat (k : Nat) {f : Nat → List Nat} : ∀ {l : List Nat}, (∀ j ∈ l, run k 0 (f j) = 0) → run k 0 ((l.map f).flatten) = 0
  | [], _ => rfl
  | j :: l, h => by
    rw [List.map_cons, List.flatten_cons, run_app, h j (List.mem_cons_self ..)]
    exact run_flat k fun i hi => h i (List.mem_cons_of_mem _ hi)
theorem no40_tl (O : GT G) (k : Nat) : 40 ∉ tlF G k := by
  unfold tlF
  intro h
  have h1 := mk_of O k
  simp only [List.mem_cons, List.mem_append, List.not_mem_nil, or_false] at h
  rcases h with h | h | h | h
  · lia
  · have := digs_ok _ (port_of O k) _ h; lia
  · lia
  · lia
theorem run_T (O : GT G) {k : Nat} (hk : k < 6) (hb : b k = true) : ∀ j, j < 6 → run k 0 (T G b j) = 0 := by
  refine inward (P := PG G) fun j hj ih => ?_
  cases e : b j with
  | true =>
    rw [T_read hj e]
    refine run_plain k _ fun h => ?_
    simp at h; lia
  | false =>
    have hne : j ≠ k := fun z => by rw [z, hb] at e; cases e
    rw [T_open hj e, run_app, run_app]
    have h1 : run k 0 (hdF G j) = 0 := run_start k hk j hj hne _ (mk_mem O j) _ (by
      rcases nt_of O j with e | e | e <;> rw [e] <;> simp)
    rw [h1, run_flat k ih]
    exact run_plain k _ (no40_tl O j)
theorem find_read (O : GT G) {k : Nat} (hk : k < 6) (hb : b k = true) : Txt.find (S (T G b 0)) (S [40, mkG G k, 97 + k]) < 0 := by
  refine find_no fun i x => ?_
  have e := fits_split x
  have h0 := run_T O hk hb 0 (by lia)
  rw [e, run_app, run_app, run_head hk (mk_of O k), run_bad] at h0
  cases h0
theorem find_open (O : GT G) (V : Vd (PG G) b) {k : Nat} (hk : k < 6) (hb : b k = false) : 0 ≤ Txt.find (S (T G b 0)) (S [40, mkG G k, 97 + k]) := by
  obtain ⟨pre, post, e, hno, _⟩ := T_path (b := b) O k hk (fun r hr _ => V.anc' O.tree hr hb)
  have e1 := e b (fun _ _ => rfl)
  have : Txt.find (S (T G b 0)) (S [40, mkG G k, 97 + k]) = ((pre.length : Nat) : Int) := by
    rw [e1, T_open hk hb, hd_cut]
    simp only [List.append_assoc]
    exact head_find O hk (hno k hk .refl)
  lia
theorem T_inj (O : GT G) (V : Vd (PG G) b) (V' : Vd (PG G) b') (h : T G b 0 = T G b' 0) : b = b' := by
  refine V.ext V' fun k hk => ?_
  cases e : b k <;> cases e' : b' k
  · rfl
  · have h1 := find_open O V hk e
    have h2 := find_read O hk e'
    rw [h] at h1; lia
  · have h1 := find_open O V' hk e'
    have h2 := find_read O hk e
    rw [h] at h2; lia
  · rfl
theorem rd_gone (O : GT G) {k : Nat} {g : Grp} (hg : G[k]? = some g) (hk : k < 6) (hb : b k = true) : Rdg (S (T G b 0)) g k none := by
  have hhd : g.head = [40, mkG G k, 97 + k] := by have := (O.at_ k g hg).1; unfold mkG; rw [hg]; exact this
  exact Rdg.gone (hhd ▸ find_read O hk hb)

open Classical in
/-- what a reading makes of a text -/
noncomputable def rdF (G : List Grp) (left : Str) (k : Nat) : Option Str :=
  if h : ∃ b, Vd (PG G) b ∧ left = S (T G b 0) ∧ Can (PG G) b k then some (S (T G (upd h.choose k) 0)) else none
theorem rdF_can (O : GT G) (V : Vd (PG G) b) {k : Nat} (C : Can (PG G) b k) : rdF G (S (T G b 0)) k = some (S (T G (upd b k) 0)) := by
  have h : ∃ b', Vd (PG G) b' ∧ S (T G b 0) = S (T G b' 0) ∧ Can (PG G) b' k := ⟨b, V, rfl, C⟩
  unfold rdF
  rw [dif_pos h]
  obtain ⟨h1, h2, _⟩ := h.choose_spec
  rw [← T_inj O V h1 (S_inj h2)]
theorem rdF_not (O : GT G) (V : Vd (PG G) b) {k : Nat} (C : ¬ Can (PG G) b k) : rdF G (S (T G b 0)) k = none := by
  unfold rdF
  rw [dif_neg]
  rintro ⟨b', h1, h2, h3⟩
  rw [← T_inj O V h1 (S_inj h2)] at h3
  exact C h3
theorem rdF_some (O : GT G) (V : Vd (PG G) b) {k : Nat} {t : Str} (h : rdF G (S (T G b 0)) k = some t) : Can (PG G) b k ∧ t = S (T G (upd b k) 0) := by
  by_cases C : Can (PG G) b k
  · rw [rdF_can O V C] at h; cases h; exact ⟨C, rfl⟩
  · rw [rdF_not O V C] at h; cases h
theorem rdg_all (O : GT G) (V : Vd (PG G) b) {k : Nat} {g : Grp} (hk : k < 6) (hg : G[k]? = some g) : Rdg (S (T G b 0)) g k (rdF G (S (T G b 0)) k) := by
  by_cases C : Can (PG G) b k
  · rw [rdF_can O V C]; exact rd_can O V hg C
  · rw [rdF_not O V C]
    cases e : b k with
    | true => exact rd_gone O hg hk e
    | false =>
      refine rd_bad O V hg hk e (Classical.byContradiction fun hn => C ⟨hk, e, fun j hj => ?_⟩)
      cases ej : b j with
      | true => rfl
      | false => exact absurd ⟨j, hj, ej⟩ hn

/-! ### sums over the groups -/
noncomputable def s6 (f : Nat → Int) : Int := f 0 + f 1 + f 2 + f 3 + f 4 + f 5
theorem s6_congr {f g : Nat → Int} (h : ∀ k, k < 6 → f k = g k) : s6 f = s6 g := by
  unfold s6
  rw [h 0 (by lia), h 1 (by lia), h 2 (by lia), h 3 (by lia), h 4 (by lia), h 5 (by lia)]
theorem s6_add (f g : Nat → Int) : s6 (fun k => f k + g k) = s6 f + s6 g := by simp only [s6]; lia
noncomputable def ind (p : Bool) : Int := if p = true then 1 else 0
theorem s6_sum (f : Nat → Int) : ((List.range 6).map f).sum = s6 f := by
  show f 0 + (f 1 + (f 2 + (f 3 + (f 4 + (f 5 + 0))))) = s6 _
  simp only [s6]
  lia
theorem filter_ind (p : Nat → Bool) : (((List.range 6).filter p).length : Int) = s6 fun k => ind (p k) := by
  have : ∀ l : List Nat, ((l.filter p).length : Int) = (l.map fun k => ind (p k)).sum := by
    intro l
    induction l with
    | nil => rfl
    | cons x l ih =>
      rw [List.filter_cons, List.map_cons, List.sum_cons, ← ih]
      unfold ind
      cases p x <;> simp <;> lia
  rw [this, s6_sum]
noncomputable def card (b : Nat → Bool) : Int := s6 fun k => ind (b k)
/-- is held: read, and the group around it isn't -/
noncomputable def hld (P : List Int) (b : Nat → Bool) (k : Nat) : Bool := b k && (decide (1 ≤ k) && !b (par P k))
noncomputable def heldF (P : List Int) (b : Nat → Bool) : Int := s6 fun k => ind (hld P b k)
theorem mem_T0 (O : GT G) (V : Vd (PG G) b) (h0 : b 0 = false) {k : Nat} (hk : k < 6) : decide (97 + k ∈ T G b 0) = (!b k || hld (PG G) b k) := by
  unfold hld
  cases e : b k with
  | false =>
    obtain ⟨pre, post, ep, _, _⟩ := T_path (b := b) O k hk (fun r hr _ => V.anc' O.tree hr e)
    refine decide_eq_true ?_
    rw [ep b fun _ _ => rfl, T_open hk e]
    unfold hdF
    simp
  | true =>
    have h1 : 1 ≤ k := by
      rcases Nat.eq_zero_or_pos k with rfl | h
      · rw [h0] at e; cases e
      · exact h
    rw [decide_eq_true h1]
    show _ = !b (par (PG G) k)
    cases ep : b (par (PG G) k) with
    | false =>
      obtain ⟨pre, post, epp, _, _⟩ := T_path (b := b) O k hk (fun r hr hne => by
        rcases hr.inv with rfl | ⟨_, _, hr⟩
        · exact absurd rfl hne
        · exact V.anc' O.tree hr ep)
      refine decide_eq_true ?_
      rw [epp b fun _ _ => rfl, T_read hk e]
      simp
    | true =>
      refine decide_eq_false fun hm => ?_
      rcases let_T O hk 0 (by lia) hm with rfl | ⟨_, _, h3⟩
      · lia
      · rw [ep] at h3; cases h3
theorem nameCs_eq : nameCs = (List.range 6).map (97 + ·) := by decide +kernel
theorem held_eq (O : GT G) (V : Vd (PG G) b) (h0 : b 0 = false) {s : Int} (hs : card b = s) : heldN (S (T G b 0)) s = heldF (PG G) b := by
  unfold heldN
  rw [nameCs_eq, List.filter_map, List.length_map]
  have e : ((fun c => Txt.contains (S (T G b 0)) ⟨#[c]⟩) ∘ fun x => 97 + x) = fun k => decide (97 + k ∈ T G b 0) := by
    funext k
    simp only [Function.comp]
    exact contains_iff _ _
  rw [e, filter_ind]
  have e2 : (s6 fun k => ind (decide (97 + k ∈ T G b 0))) = s6 fun k => (1 - ind (b k)) + ind (hld (PG G) b k) := by
    refine s6_congr fun k hk => ?_
    rw [mem_T0 O V h0 hk]
    unfold hld ind
    cases b k <;> simp
  rw [e2, s6_add]
  unfold card at hs
  unfold heldF
  have : (s6 fun k => 1 - ind (b k)) = 6 - s6 fun k => ind (b k) := by simp only [s6]; lia
  lia
end
end Mine

namespace Mine
open PySem PySem.Calls PySem.W

/-! ### tables: keys, sums -/
section
variable {K α : Type} [DecidableEq K]
noncomputable def keys (t : List (K × α)) : List K := t.map (·.1)
theorem any_keys (t : List (K × α)) (k : K) : (t.any fun kv => decide (kv.1 = k)) = true ↔ k ∈ keys t := by
  unfold keys
  rw [List.any_eq_true, List.mem_map]
  constructor
  · rintro ⟨p, hp, e⟩; exact ⟨p, hp, of_decide_eq_true e⟩
  · rintro ⟨p, hp, e⟩; exact ⟨p, hp, decide_eq_true e⟩
theorem keys_put (t : List (K × α)) (k : K) (v : α) : keys (dput t k v) = if k ∈ keys t then keys t else keys t ++ [k] := by
  unfold dput
  by_cases q : k ∈ keys t
  · rw [if_pos ((any_keys t k).mpr q), if_pos q]
    unfold keys
    rw [List.map_map]
    refine List.map_congr_left fun p _ => ?_
    simp only [Function.comp]
    split <;> rfl
  · rw [if_neg (fun z => q ((any_keys t k).mp z)), if_neg q]
    unfold keys
    simp
theorem mem_put {t : List (K × α)} {k k' : K} {v : α} : k' ∈ keys (dput t k v) ↔ k' = k ∨ k' ∈ keys t := by
  rw [keys_put]
  split
  · rename_i h
    constructor
    · exact .inr
    · rintro (rfl | h')
      · exact h
      · exact h'
  · simp [or_comm]
theorem NK_put {t : List (K × α)} (h : NK t) (k : K) (v : α) : NK (dput t k v) := by
  show (keys (dput t k v)).Nodup
  rw [keys_put]
  split
  · exact h
  · rename_i q
    refine List.nodup_append.mpr ⟨h, List.nodup_cons.mpr ⟨List.not_mem_nil, List.nodup_nil⟩, ?_⟩
    rintro a ha b hb rfl
    rw [List.mem_singleton.mp hb] at ha
    exact q ha
theorem dget_none {t : List (K × α)} {k : K} : dget t k = none ↔ k ∉ keys t := by
  unfold dget
  rw [Option.map_eq_none_iff, List.find?_eq_none]
  constructor
  · intro h hm
    obtain ⟨p, hp, e⟩ := List.mem_map.mp hm
    exact h p hp (decide_eq_true e)
  · intro h p hp e
    exact h (List.mem_map.mpr ⟨p, hp, of_decide_eq_true e⟩)
theorem dget_put_self (t : List (K × α)) (k : K) (v : α) : dget (dput t k v) k = some v := by
  unfold dput
  split
  · rename_i h
    induction t with
    | nil => simp at h
    | cons p t ih =>
      unfold dget at *
      rw [List.map_cons]
      by_cases q : p.1 = k
      · simp [q]
      · simp only [q, if_false, List.find?_cons, decide_false]
        exact ih (by simpa [q] using h)
  · rename_i h
    unfold dget
    rw [List.find?_append]
    have : t.find? (fun kv => decide (kv.1 = k)) = none := by
      rw [List.find?_eq_none]
      intro p hp e
      exact h (List.any_eq_true.mpr ⟨p, hp, e⟩)
    rw [this]
    simp
theorem dget_put_ne (t : List (K × α)) {k k' : K} (v : α) (hne : k' ≠ k) : dget (dput t k v) k' = dget t k' := by
  unfold dput
  split
  · unfold dget
    rw [List.find?_map]
    have : ((fun kv : K × α => decide (kv.1 = k')) ∘ fun kv => if kv.1 = k then (kv.1, v) else kv) = fun kv : K × α => decide (kv.1 = k') := by
      funext kv
      simp only [Function.comp]
      split <;> rfl
    rw [this]
    cases e : t.find? (fun kv => decide (kv.1 = k')) with
    | none => rfl
    | some p =>
      have : p.1 = k' := by simpa using List.find?_some e
      have hq : ¬ p.1 = k := fun z => hne (this ▸ z)
      simp [hq]
  · unfold dget
    rw [List.find?_append]
    cases e : t.find? (fun kv => decide (kv.1 = k')) with
    | none => simp [Ne.symm hne]
    | some p => simp
theorem mem_of_dget {t : List (K × α)} {k : K} {v : α} (h : dget t k = some v) : (k, v) ∈ t := by
  unfold dget at h
  obtain ⟨p, hp, rfl⟩ := Option.map_eq_some_iff.mp h
  have : p.1 = k := by simpa using List.find?_some hp
  rw [← this]
  exact List.mem_of_find?_eq_some hp
end

noncomputable def tsum (t : Tbl) : Int := (t.map (·.2)).sum
theorem tsum_cons (p : Int × Int) (t : Tbl) : tsum (p :: t) = p.2 + tsum t := rfl
theorem tsum_append (t t' : Tbl) : tsum (t ++ t') = tsum t + tsum t' := by
  unfold tsum
  rw [List.map_append, List.sum_append]
theorem tsum_put {t : Tbl} (h : NK t) (k v : Int) : tsum (dput t k v) = tsum t + v - (dget t k).getD 0 := by
  unfold dput
  split
  · rename_i hany
    induction t with
    | nil => simp at hany
    | cons p t ih =>
      have hn : NK t := (List.nodup_cons.mp h).2
      have hnot : p.1 ∉ keys t := (List.nodup_cons.mp h).1
      rw [List.map_cons, tsum_cons, tsum_cons]
      by_cases q : p.1 = k
      · have e : (t.map fun kv => if kv.1 = k then (kv.1, v) else kv) = t := by
          conv => rhs; rw [← List.map_id t]
          refine List.map_congr_left fun x hx => ?_
          rw [if_neg]; rfl
          intro z
          exact hnot (List.mem_map.mpr ⟨x, hx, by rw [z, q]⟩)
        rw [e]
        simp [q, dget]; lia
      · have := ih hn (by simpa [q] using hany)
        rw [this]
        simp [q, dget]; lia
  · rename_i hany
    have : dget t k = none := dget_none.mpr fun z => hany ((any_keys t k).mpr z)
    rw [this, tsum_append, tsum_cons]
    simp [tsum]

/-- a fold that puts or adds -/
theorem raise_fold (tab : Tbl) (need : Int) : ∀ (l acc : Tbl), NK acc → NK (l.foldl (raise1 tab need) acc) ∧ tsum (l.foldl (raise1 tab need) acc) = tsum acc + tsum l ∧
    ∀ p, p ∈ keys (l.foldl (raise1 tab need) acc) ↔ p ∈ keys acc ∨ ∃ q ∈ keys l, p = max q need
  | [], acc, h => ⟨h, by simp [tsum], fun p => by simp [keys]⟩
  | x :: l, acc, h => by
    have h1 : NK (raise1 tab need acc x) := NK_put h _ _
    obtain ⟨i1, i2, i3⟩ := raise_fold tab need l _ h1
    rw [List.foldl_cons]
    refine ⟨i1, ?_, fun p => ?_⟩
    · rw [i2, tsum_cons]
      unfold raise1
      rw [tsum_put h]
      lia
    · rw [i3]
      unfold raise1
      rw [mem_put]
      simp only [keys, List.map_cons, List.mem_cons]
      constructor
      · rintro ((h | h) | ⟨q, hq, e⟩)
        · exact .inr ⟨x.1, .inl rfl, h⟩
        · exact .inl h
        · exact .inr ⟨q, .inr hq, e⟩
      · rintro (h | ⟨q, rfl | hq, e⟩)
        · exact .inl (.inr h)
        · exact .inl (.inl e)
        · exact .inr ⟨q, hq, e⟩
theorem NK_nil {K α : Type} : NK ([] : List (K × α)) := List.nodup_nil
theorem raised_of (tab : Tbl) (need : Int) : NK (raisedT tab need) ∧ tsum (raisedT tab need) = tsum tab ∧ ∀ p, p ∈ keys (raisedT tab need) ↔ ∃ q ∈ keys tab, p = max q need := by
  obtain ⟨h1, h2, h3⟩ := raise_fold tab need tab [] NK_nil
  refine ⟨h1, ?_, fun p => ?_⟩
  · unfold raisedT; rw [h2]; simp [tsum]
  · unfold raisedT; rw [h3]; simp [keys]
theorem copy_of : ∀ (l acc : Tbl), NK (acc ++ l) → copyT l acc = acc ++ l
  | [], acc, _ => by simp [copyT]
  | x :: l, acc, h => by
    have hx : x.1 ∉ keys acc := fun z => by
      unfold NK at h
      rw [List.map_append, List.map_cons] at h
      exact (List.nodup_append.mp h).2.2 x.1 z x.1 (List.mem_cons_self ..) rfl
    show copyT l (dput acc x.1 x.2) = _
    rw [dput_new (dget_none.mpr hx), copy_of l _ (by rw [List.append_assoc]; exact h)]
    simp
theorem add_fold : ∀ (l acc : Tbl), NK acc → NK (l.foldl add1 acc) ∧ tsum (l.foldl add1 acc) = tsum acc + tsum l ∧ ∀ p, p ∈ keys (l.foldl add1 acc) ↔ p ∈ keys acc ∨ p ∈ keys l
  | [], acc, h => ⟨h, by simp [tsum], fun p => by simp [keys]⟩
  | x :: l, acc, h => by
    have e : ∃ v, add1 acc x = dput acc x.1 v ∧ v = (dget acc x.1).getD 0 + x.2 := by
      unfold add1
      cases e : dget acc x.1 with
      | none => exact ⟨x.2, rfl, by simp⟩
      | some u => exact ⟨u + x.2, rfl, rfl⟩
    obtain ⟨v, e1, e2⟩ := e
    have h1 : NK (add1 acc x) := e1 ▸ NK_put h _ _
    obtain ⟨i1, i2, i3⟩ := add_fold l _ h1
    rw [List.foldl_cons]
    refine ⟨i1, ?_, fun p => ?_⟩
    · rw [i2, tsum_cons, e1, tsum_put h, e2]
      lia
    · rw [i3, e1, mem_put]
      simp only [keys, List.map_cons, List.mem_cons]
      constructor
      · rintro ((h | h) | h)
        · exact .inr (.inl h)
        · exact .inl h
        · exact .inr (.inr h)
      · rintro (h | h | h)
        · exact .inl (.inr h)
        · exact .inl (.inl h)
        · exact .inr h
theorem addT_of {a c : Tbl} (h : NK a) : NK (addT a c) ∧ tsum (addT a c) = tsum a + tsum c ∧ ∀ p, p ∈ keys (addT a c) ↔ p ∈ keys a ∨ p ∈ keys c := by
  have e : copyT a [] = a := by
    have := copy_of a [] (by simpa using h)
    simpa using this
  unfold addT
  rw [e]
  exact add_fold c a h

/-! ### rows put one by one -/
noncomputable def putAll (hits : List (Str × Tbl)) (acc : Rows) : Rows := hits.foldl (fun acc h => putRow acc h.1 h.2) acc
noncomputable def at0 (acc : Rows) (x : Str) : Tbl := (dget acc x).getD []
structure PutOk (acc : Rows) (hits : List (Str × Tbl)) : Prop where
  nk : NK acc
  keys_ : ∀ x, x ∈ keys acc ↔ x ∈ keys hits
  each : ∀ x, NK (at0 acc x)
  sum_ : ∀ x, tsum (at0 acc x) = (hits.map fun h => if h.1 = x then tsum h.2 else 0).sum
  has : ∀ x p, p ∈ keys (at0 acc x) ↔ ∃ t, (x, t) ∈ hits ∧ p ∈ keys t
theorem putOk_nil : PutOk [] [] := ⟨NK_nil, fun x => Iff.rfl, fun x => NK_nil, fun x => rfl, fun x p => by
  constructor
  · intro h; cases h
  · rintro ⟨t, h, _⟩; cases h⟩
theorem putOk_one {acc : Rows} {hits : List (Str × Tbl)} (O : PutOk acc hits) (h : Str × Tbl) : PutOk (putRow acc h.1 h.2) (hits ++ [h]) := by
  have e0 : at0 (putRow acc h.1 h.2) h.1 = addT (at0 acc h.1) h.2 := by
    unfold at0 putRow
    rw [dget_put_self]; rfl
  have e1 : ∀ x, x ≠ h.1 → at0 (putRow acc h.1 h.2) x = at0 acc x := fun x hx => by
    unfold at0 putRow
    rw [dget_put_ne _ _ hx]
  obtain ⟨a1, a2, a3⟩ := addT_of (a := at0 acc h.1) (c := h.2) (O.each h.1)
  refine ⟨NK_put O.nk _ _, fun x => ?_, fun x => ?_, fun x => ?_, fun x p => ?_⟩
  · unfold putRow
    rw [mem_put, O.keys_]
    simp only [keys, List.map_append, List.map_cons, List.map_nil, List.mem_append, List.mem_singleton]
    exact or_comm
  · by_cases q : x = h.1
    · rw [q, e0]; exact a1
    · rw [e1 x q]; exact O.each x
  · rw [List.map_append, List.sum_append]
    by_cases q : x = h.1
    · rw [q, e0, a2, O.sum_]; simp
    · rw [e1 x q, O.sum_]; simp [Ne.symm q]
  · by_cases q : x = h.1
    · rw [q, e0, a3, O.has]
      constructor
      · rintro (⟨t, ht, hp⟩ | hp)
        · exact ⟨t, List.mem_append.mpr (.inl ht), hp⟩
        · exact ⟨h.2, List.mem_append.mpr (.inr (List.mem_singleton.mpr rfl)), hp⟩
      · rintro ⟨t, ht, hp⟩
        rcases List.mem_append.mp ht with ht | ht
        · exact .inl ⟨t, ht, hp⟩
        · have := List.mem_singleton.mp ht
          have : t = h.2 := by rw [← this]
          exact .inr (this ▸ hp)
    · rw [e1 x q, O.has]
      constructor
      · rintro ⟨t, ht, hp⟩; exact ⟨t, List.mem_append.mpr (.inl ht), hp⟩
      · rintro ⟨t, ht, hp⟩
        rcases List.mem_append.mp ht with ht | ht
        · exact ⟨t, ht, hp⟩
        · have := List.mem_singleton.mp ht
          exact absurd (by rw [← this]) q
theorem putOk_all : ∀ (hits : List (Str × Tbl)) (acc : Rows) (done : List (Str × Tbl)), PutOk acc done → PutOk (putAll hits acc) (done ++ hits)
  | [], acc, done, O => by rw [List.append_nil]; exact O
  | h :: hits, acc, done, O => by
    have := putOk_all hits (putRow acc h.1 h.2) (done ++ [h]) (putOk_one O h)
    rw [List.append_assoc] at this
    exact this
theorem putOk (hits : List (Str × Tbl)) : PutOk (putAll hits []) hits := putOk_all hits [] [] putOk_nil
theorem putAll_app (h h' : List (Str × Tbl)) (acc : Rows) : putAll (h ++ h') acc = putAll h' (putAll h acc) := by unfold putAll; rw [List.foldl_append]

/-- what one row gives -/
noncomputable def hitsK (port : Nat → Nat) (rd : Str → Nat → Option Str) (step : Int) (p : Str × Tbl) (ks : List Nat) : List (Str × Tbl) :=
  ks.filterMap fun k => (rd p.1 k).map fun after => (after, raisedT p.2 (heldN p.1 step + 1 + ((port k : Int).fmod 4)))
noncomputable def hitsR (port : Nat → Nat) (rd : Str → Nat → Option Str) (step : Int) (rows : Rows) : List (Str × Tbl) := rows.flatMap fun p => hitsK port rd step p (List.range 6)
theorem grow_hits (port : Nat → Nat) (rd : Str → Nat → Option Str) (step : Int) (p : Str × Tbl) : ∀ (ks : List Nat) (acc : Rows), ks.foldl (grow1 port rd step p.1 p.2) acc = putAll (hitsK port rd step p ks) acc
  | [], acc => rfl
  | k :: ks, acc => by
    rw [List.foldl_cons, grow_hits port rd step p ks]
    unfold hitsK
    rw [List.filterMap_cons]
    unfold grow1
    cases rd p.1 k <;> rfl
theorem growL_hits (port : Nat → Nat) (rd : Str → Nat → Option Str) (step : Int) : ∀ (rows acc : Rows), rows.foldl (growL port rd step) acc = putAll (hitsR port rd step rows) acc
  | [], acc => rfl
  | p :: rows, acc => by
    rw [List.foldl_cons, growL_hits port rd step rows]
    unfold hitsR growL
    rw [List.flatMap_cons, putAll_app, grow_hits]
end Mine

namespace Mine
open PySem PySem.Calls PySem.W

/-! ### sums over a tree -/
section
variable {P : List Int}
theorem above_range : ∀ k, k < 6 → above k = (List.range 6).filter fun j => decide (k < j) := by decide +kernel
theorem kids_range (D : PT P) {k : Nat} (hk : k < 6) : kidsP P k = (List.range 6).filter fun j => decide (k < j ∧ par P j = k) := by
  unfold kidsP
  rw [above_range k hk, List.filter_filter]
  refine List.filter_congr fun j hj => ?_
  have hj6 := List.mem_range.mp hj
  by_cases q : k < j
  · have := D.lt j (by lia) hj6
    have e : (pAt P j = (k : Int)) ↔ par P j = k := by unfold par; lia
    simp [q, e]
  · simp [q]
theorem filter_sum (p : Nat → Bool) (f : Nat → Int) : (((List.range 6).filter p).map f).sum = s6 fun j => if p j = true then f j else 0 := by
  have : ∀ l : List Nat, ((l.filter p).map f).sum = (l.map fun j => if p j = true then f j else 0).sum := by
    intro l
    induction l with
    | nil => rfl
    | cons x l ih =>
      rw [List.filter_cons, List.map_cons, List.sum_cons, ← ih]
      cases p x <;> simp
  rw [this, s6_sum]
theorem kid_sum (D : PT P) {k : Nat} (hk : k < 6) (f : Nat → Int) : ((kidsP P k).map f).sum = s6 fun j => if k < j ∧ par P j = k then f j else 0 := by
  rw [kids_range D hk, filter_sum]
  refine s6_congr fun j _ => ?_
  by_cases q : k < j ∧ par P j = k <;> simp [q]
theorem s6_only {q : Nat} (hq : q < 6) (c : Int) : (s6 fun k => if k = q then c else 0) = c := by
  match q, hq with
  | 0, _ => simp [s6]
  | 1, _ => simp [s6]
  | 2, _ => simp [s6]
  | 3, _ => simp [s6]
  | 4, _ => simp [s6]
  | 5, _ => simp [s6]
theorem s6_swap (f : Nat → Nat → Int) : (s6 fun k => s6 fun j => f k j) = s6 fun j => s6 fun k => f k j := by
  have add : ∀ l : List Nat, (l.map fun k => s6 (f k)).sum = s6 fun j => (l.map fun k => f k j).sum := by
    intro l
    induction l with
    | nil => rfl
    | cons x l ih => rw [List.map_cons, List.sum_cons, ih, ← s6_add]; rfl
  rw [← s6_sum]
  refine (add _).trans (s6_congr fun j _ => ?_)
  exact s6_sum _
theorem s6_mul (c : Int) (f : Nat → Int) : c * s6 f = s6 fun k => c * f k := by simp only [s6, Int.mul_add]
/-- each group but the first lies right within one -/
theorem edge_sum (D : PT P) (g f : Nat → Int) : (s6 fun k => g k * ((kidsP P k).map f).sum) = s6 fun j => if 1 ≤ j then g (par P j) * f j else 0 := by
  have e1 : (s6 fun k => g k * ((kidsP P k).map f).sum) = s6 fun k => s6 fun j => if k < j ∧ par P j = k then g k * f j else 0 := by
    refine s6_congr fun k hk => ?_
    rw [kid_sum D hk, s6_mul]
    refine s6_congr fun j _ => ?_
    split <;> simp
  rw [e1, s6_swap]
  refine s6_congr fun j hj => ?_
  by_cases h1 : 1 ≤ j
  · rw [if_pos h1]
    have hlt := D.par_lt h1 hj
    have : (s6 fun k => if k < j ∧ par P j = k then g k * f j else 0) = s6 fun k => if k = par P j then g (par P j) * f j else 0 := by
      refine s6_congr fun k _ => ?_
      by_cases q : k = par P j
      · subst q; rw [if_pos ⟨hlt, rfl⟩, if_pos rfl]
      · rw [if_neg (fun z => q z.2.symm), if_neg q]
    rw [this, s6_only (by lia)]
  · rw [if_neg h1]
    have : (s6 fun k => if k < j ∧ par P j = k then g k * f j else 0) = s6 fun _ => 0 := s6_congr fun k _ => by rw [if_neg (by lia)]
    rw [this]; rfl

/-! ### reading one more -/
noncomputable def rem (b : Nat → Bool) (k : Nat) : Nat → Bool := fun x => x != k && b x
theorem rem_self (b : Nat → Bool) (k : Nat) : rem b k k = false := by simp [rem]
theorem rem_ne (b : Nat → Bool) {k x : Nat} (h : x ≠ k) : rem b k x = b x := by simp [rem, h]
structure Mx (P : List Int) (b : Nat → Bool) (k : Nat) : Prop where
  lt : k < 6
  yes : b k = true
  top : k = 0 ∨ b (par P k) = false
theorem upd_rem {b : Nat → Bool} {k : Nat} (h : b k = true) : upd (rem b k) k = b := by
  funext x
  by_cases q : x = k
  · rw [q, upd_self, h]
  · rw [upd_ne _ q, rem_ne _ q]
theorem rem_upd {b : Nat → Bool} {k : Nat} (h : b k = false) : rem (upd b k) k = b := by
  funext x
  by_cases q : x = k
  · rw [q, rem_self, h]
  · rw [rem_ne _ q, upd_ne _ q]
theorem Mx.rem (D : PT P) {b : Nat → Bool} (V : Vd P b) {k : Nat} (M : Mx P b k) : Vd P (rem b k) ∧ Can P (Mine.rem b k) k := by
  refine ⟨⟨fun x hx => ?_, fun x h1 h6 hp => ?_⟩, ⟨M.lt, rem_self b k, fun j hj => ?_⟩⟩
  · rw [rem_ne b (by have := M.lt; lia)]; exact V.off x hx
  · have hne : par P x ≠ k := fun z => by rw [z, rem_self] at hp; cases hp
    rw [rem_ne b hne] at hp
    have hx : x ≠ k := by
      rintro rfl
      rcases M.top with z | z
      · lia
      · rw [z] at hp; cases hp
    rw [rem_ne b hx]
    exact V.down x h1 h6 hp
  · obtain ⟨h1, h2, h3⟩ := (kid_iff D).mp hj
    rw [rem_ne b (by lia)]
    exact V.down j (by lia) h2 (h3 ▸ M.yes)
theorem Can.mx (D : PT P) {b : Nat → Bool} (V : Vd P b) {k : Nat} (C : Can P b k) : Mx P (upd b k) k := by
  refine ⟨C.lt, upd_self b k, ?_⟩
  by_cases h0 : k = 0
  · exact .inl h0
  · have := D.par_lt (by lia) C.lt
    refine .inr ?_
    rw [upd_ne b (by lia)]
    cases e : b (par P k) with
    | false => rfl
    | true => have := V.down k (by lia) C.lt e; rw [C.no] at this; cases this
theorem card_upd {b : Nat → Bool} {k : Nat} (hk : k < 6) (h : b k = false) : card (upd b k) = card b + 1 := by
  have : card (upd b k) = s6 fun x => ind (b x) + if x = k then 1 else 0 := by
    refine s6_congr fun x _ => ?_
    by_cases q : x = k
    · subst q; rw [upd_self, h]; simp [ind]
    · rw [upd_ne _ q, if_neg q]; simp
  rw [this, s6_add, s6_only hk]; rfl
theorem ind_01 (p : Bool) : 0 ≤ ind p ∧ ind p ≤ 1 := by cases p <;> simp [ind]
theorem six_le : ∀ a b c d e f : Bool, 0 ≤ ind a + ind b + ind c + ind d + ind e + ind f ∧ ind a + ind b + ind c + ind d + ind e + ind f ≤ 6 := by decide +kernel
theorem six_all : ∀ a b c d e f : Bool, ind a + ind b + ind c + ind d + ind e + ind f = 6 → a = true ∧ b = true ∧ c = true ∧ d = true ∧ e = true ∧ f = true := by decide +kernel
theorem six_none : ∀ a b c d e f : Bool, ind a + ind b + ind c + ind d + ind e + ind f = 0 → a = false ∧ b = false ∧ c = false ∧ d = false ∧ e = false ∧ f = false := by decide +kernel
theorem card_le (b : Nat → Bool) : 0 ≤ card b ∧ card b ≤ 6 := six_le _ _ _ _ _ _
theorem card_six {b : Nat → Bool} (h : card b = 6) : ∀ k, k < 6 → b k = true := by
  obtain ⟨h0, h1, h2, h3, h4, h5⟩ := six_all _ _ _ _ _ _ h
  intro k hk
  match k, hk with
  | 0, _ => exact h0
  | 1, _ => exact h1
  | 2, _ => exact h2
  | 3, _ => exact h3
  | 4, _ => exact h4
  | 5, _ => exact h5
theorem card_zero {b : Nat → Bool} (h : card b = 0) : ∀ k, k < 6 → b k = false := by
  obtain ⟨h0, h1, h2, h3, h4, h5⟩ := six_none _ _ _ _ _ _ h
  intro k hk
  match k, hk with
  | 0, _ => exact h0
  | 1, _ => exact h1
  | 2, _ => exact h2
  | 3, _ => exact h3
  | 4, _ => exact h4
  | 5, _ => exact h5
theorem card_whole : card whole = 6 := by decide
theorem card_none : card (fun _ => false) = 0 := by decide
theorem whole_of {b : Nat → Bool} (V : Vd P b) (h : card b = 6) : b = whole := V.ext (Vd.whole P) fun k hk => by rw [card_six h k hk, whole_lt hk]
theorem none_of {b : Nat → Bool} (V : Vd P b) (h : card b = 0) : b = fun _ => false := V.ext (Vd.none P) fun k hk => card_zero h k hk
theorem root_of {b : Nat → Bool} (D : PT P) (V : Vd P b) (h : card b < 6) : b 0 = false := by
  cases e : b 0 with
  | false => rfl
  | true =>
    have : card b = card whole := s6_congr fun k hk => by rw [V.anc D (Anc.root D hk) e, whole_lt hk]
    rw [card_whole] at this; lia
theorem mx_exists (D : PT P) {b : Nat → Bool} (h : 0 < card b) : ∃ k, Mx P b k := by
  have hex : ∃ k, k < 6 ∧ b k = true := by
    refine Classical.byContradiction fun hn => ?_
    have : card b = card (fun _ => false) := s6_congr fun k hk => by
      cases e : b k with
      | false => rfl
      | true => exact absurd ⟨k, hk, e⟩ hn
    rw [card_none] at this; lia
  obtain ⟨k, hk, hb⟩ := hex
  induction k using Nat.strongRecOn with
  | ind k ih =>
    by_cases h0 : k = 0
    · exact ⟨k, hk, hb, .inl h0⟩
    · have := D.par_lt (by lia) hk
      cases e : b (par P k) with
      | false => exact ⟨k, hk, hb, .inr e⟩
      | true => exact ih _ this (by lia) e

/-! ### Knuth's product -/
theorem sz_max (D : PT P) {b : Nat → Bool} (V : Vd P b) : (s6 fun k => ind (b k && (decide (k = 0) || !b (par P k))) * szK P k) = card b := by
  have h := edge_sum D (fun k => ind (b k)) (szK P)
  have e1 : (s6 fun k => ind (b k) * ((kidsP P k).map (szK P)).sum) = (s6 fun k => ind (b k) * szK P k) - card b := by
    have : (s6 fun k => ind (b k) * szK P k) = s6 fun k => ind (b k) * ((kidsP P k).map (szK P)).sum + ind (b k) := s6_congr fun k hk => by
      rw [szK_eq hk, Int.mul_add]; lia
    rw [this, s6_add]
    unfold card; lia
  have e2 : (s6 fun k => ind (b k) * szK P k) = s6 fun k => ind (b k && (decide (k = 0) || !b (par P k))) * szK P k + if 1 ≤ k then ind (b (par P k)) * szK P k else 0 := s6_congr fun k hk => by
    by_cases h0 : k = 0
    · subst h0; simp
    · rw [if_pos (by lia)]
      cases e : b (par P k) with
      | false => simp [ind, h0]
      | true => rw [V.down k (by lia) hk e]; simp [ind, h0]
  rw [s6_add] at e2
  rw [e1, e2] at h
  lia
noncomputable def p6 (f : Nat → Int) : Int := f 0 * f 1 * f 2 * f 3 * f 4 * f 5
noncomputable def WP (P : List Int) (b : Nat → Bool) : Int := p6 fun k => if b k = true then szK P k else 1
theorem WP_upd {b : Nat → Bool} {k : Nat} (hk : k < 6) (h : b k = false) : WP P (upd b k) = szK P k * WP P b := by
  unfold WP p6
  match k, hk with
  | 0, _ => simp [upd, h, Int.mul_comm, Int.mul_left_comm, Int.mul_assoc]
  | 1, _ => simp [upd, h, Int.mul_comm, Int.mul_left_comm, Int.mul_assoc]
  | 2, _ => simp [upd, h, Int.mul_comm, Int.mul_left_comm, Int.mul_assoc]
  | 3, _ => simp [upd, h, Int.mul_comm, Int.mul_left_comm, Int.mul_assoc]
  | 4, _ => simp [upd, h, Int.mul_comm, Int.mul_left_comm, Int.mul_assoc]
  | 5, _ => simp [upd, h, Int.mul_comm, Int.mul_left_comm, Int.mul_assoc]
noncomputable def factI : Nat → Int
  | 0 => 1
  | n + 1 => ((n : Int) + 1) * factI n
end
end Mine

namespace Mine
open PySem PySem.Calls PySem.W

section
variable {G : List Grp}
noncomputable def needF (G : List Grp) (b : Nat → Bool) (k : Nat) : Int := heldF (PG G) b + 1 + ((portOf G k : Int).fmod 4)
/-- the most places needed, in some order, till what b tells is read -/
inductive Reach (G : List Grp) : (Nat → Bool) → Int → Prop
  | zero : Reach G (fun _ => false) 0
  | step {b : Nat → Bool} {p : Int} {k : Nat} : Reach G b p → Can (PG G) b k → Reach G (upd b k) (max p (needF G b k))
theorem held_bound (P : List Int) (b : Nat → Bool) : 0 ≤ heldF P b ∧ heldF P b ≤ 6 := six_le _ _ _ _ _ _
theorem need_bound (b : Nat → Bool) (k : Nat) : 1 ≤ needF G b k ∧ needF G b k ≤ 10 := by
  unfold needF
  have h1 := held_bound (PG G) b
  have h2 := Int.fmod_nonneg_of_pos (portOf G k : Int) (show (0 : Int) < 4 by lia)
  have h3 := Int.fmod_lt_of_pos (portOf G k : Int) (show (0 : Int) < 4 by lia)
  lia
theorem Reach.vd (O : GT G) {b : Nat → Bool} {p : Int} (h : Reach G b p) : Vd (PG G) b := by
  induction h with
  | zero => exact Vd.none _
  | step _ C ih => exact ih.up O.tree C
theorem Reach.bound {b : Nat → Bool} {p : Int} (h : Reach G b p) : 0 ≤ p ∧ p ≤ 10 := by
  induction h with
  | zero => lia
  | @step b p k _ C ih => have := need_bound (G := G) b k; lia
theorem reach_any (O : GT G) : ∀ (n : Nat) (b : Nat → Bool), Vd (PG G) b → card b = n → ∃ p, Reach G b p := by
  intro n
  induction n with
  | zero => intro b V h; rw [none_of V h]; exact ⟨0, .zero⟩
  | succ n ih =>
    intro b V h
    obtain ⟨k, M⟩ := mx_exists (P := PG G) O.tree (b := b) (by lia)
    obtain ⟨V', C⟩ := M.rem O.tree V
    have hc := card_upd (b := rem b k) M.lt (rem_self b k)
    rw [upd_rem M.yes] at hc
    obtain ⟨p, hp⟩ := ih _ V' (by lia)
    have := Reach.step hp C
    rw [upd_rem M.yes] at this
    exact ⟨_, this⟩

structure RInv (G : List Grp) (s : Nat) (rows : Rows) : Prop where
  nk : NK rows
  each : ∀ left tab, (left, tab) ∈ rows → ∃ b, Vd (PG G) b ∧ left = S (T G b 0) ∧ card b = s ∧ NK tab ∧ (∀ p, p ∈ keys tab ↔ Reach G b p) ∧ tsum tab * WP (PG G) b = factI s
  all : ∀ b, Vd (PG G) b → card b = s → S (T G b 0) ∈ keys rows

theorem sum_flat {α : Type} (F : α → Int) : ∀ l : List (List α), (l.flatten.map F).sum = (l.map fun x => (x.map F).sum).sum
  | [] => rfl
  | x :: l => by rw [List.flatten_cons, List.map_append, List.sum_append, sum_flat F l]; rfl
theorem sum_hitsK (port : Nat → Nat) (rd : Str → Nat → Option Str) (step : Int) (p : Str × Tbl) (F : Str × Tbl → Int) :
    ((hitsK port rd step p (List.range 6)).map F).sum = s6 fun k => match rd p.1 k with | none => 0 | some after => F (after, raisedT p.2 (heldN p.1 step + 1 + ((port k : Int).fmod 4))) := by
  have : ∀ ks : List Nat, ((hitsK port rd step p ks).map F).sum = (ks.map fun k => match rd p.1 k with | none => 0 | some after => F (after, raisedT p.2 (heldN p.1 step + 1 + ((port k : Int).fmod 4)))).sum := by
    intro ks
    induction ks with
    | nil => rfl
    | cons k ks ih =>
      unfold hitsK at ih ⊢
      rw [List.filterMap_cons, List.map_cons, List.sum_cons, ← ih]
      cases rd p.1 k <;> simp
  rw [this, s6_sum]
theorem sum_hitsR (port : Nat → Nat) (rd : Str → Nat → Option Str) (step : Int) (rows : Rows) (F : Str × Tbl → Int) :
    ((hitsR port rd step rows).map F).sum = (rows.map fun p => s6 fun k => match rd p.1 k with | none => 0 | some after => F (after, raisedT p.2 (heldN p.1 step + 1 + ((port k : Int).fmod 4)))).sum := by
  unfold hitsR
  rw [List.flatMap_def, sum_flat, List.map_map]
  congr 1
  refine List.map_congr_left fun p _ => ?_
  exact sum_hitsK port rd step p F
theorem sum_once {α : Type} {x : Str} {c : Int} : ∀ {rows : List (Str × α)}, NK rows → (rows.map fun r => if r.1 = x then c else 0).sum = if x ∈ keys rows then c else 0
  | [], _ => rfl
  | r :: rows, h => by
    have hn : NK rows := (List.nodup_cons.mp h).2
    have hno : r.1 ∉ keys rows := (List.nodup_cons.mp h).1
    rw [List.map_cons, List.sum_cons, sum_once hn]
    by_cases q : r.1 = x
    · subst q
      rw [if_pos rfl, if_neg hno, if_pos (by simp [keys])]
      lia
    · rw [if_neg q]
      have : x ∈ keys (r :: rows) ↔ x ∈ keys rows := by
        simp only [keys, List.map_cons, List.mem_cons]
        exact ⟨fun z => z.elim (fun e => absurd e.symm q) id, .inr⟩
      by_cases z : x ∈ keys rows
      · rw [if_pos z, if_pos (this.mpr z)]; lia
      · rw [if_neg z, if_neg (fun y => z (this.mp y))]; rfl
theorem sum_s6 {α : Type} (f : α → Nat → Int) : ∀ l : List α, (l.map fun x => s6 (f x)).sum = s6 fun k => (l.map fun x => f x k).sum
  | [] => rfl
  | x :: l => by
    rw [List.map_cons, List.sum_cons, sum_s6 f l, ← s6_add]
    rfl
theorem sum_mulR {α : Type} (f : α → Int) (c : Int) : ∀ l : List α, (l.map f).sum * c = (l.map fun x => f x * c).sum
  | [] => by simp
  | x :: l => by rw [List.map_cons, List.sum_cons, Int.add_mul, sum_mulR f c l]; rfl
theorem s6_mulR (c : Int) (f : Nat → Int) : s6 f * c = s6 fun k => f k * c := by simp only [s6, Int.add_mul]
theorem sum_congr {α : Type} {f g : α → Int} {l : List α} (h : ∀ x ∈ l, f x = g x) : (l.map f).sum = (l.map g).sum := by rw [List.map_congr_left h]

noncomputable def mxB (P : List Int) (b : Nat → Bool) (k : Nat) : Bool := b k && (decide (k = 0) || !b (par P k))
theorem mxB_iff {P : List Int} {b : Nat → Bool} {k : Nat} (hk : k < 6) : Mx P b k ↔ mxB P b k = true := by
  unfold mxB
  constructor
  · intro M
    rw [M.yes]
    rcases M.top with z | z
    · simp [z]
    · simp [z]
  · intro h
    obtain ⟨h1, h2⟩ := Bool.and_eq_true_iff.mp h
    refine ⟨hk, h1, ?_⟩
    rcases Bool.or_eq_true_iff.mp h2 with z | z
    · exact .inl (of_decide_eq_true z)
    · exact .inr (by simpa using z)
theorem hit_of (O : GT G) {s : Nat} {rows : Rows} (hs : s < 6) (R : RInv G s rows) {x : Str} {t : Tbl} (h : (x, t) ∈ hitsR (portOf G) (rdF G) s rows) :
    ∃ b k tab, Vd (PG G) b ∧ card b = s ∧ Can (PG G) b k ∧ x = S (T G (upd b k) 0) ∧ t = raisedT tab (needF G b k) ∧ (∀ p, p ∈ keys tab ↔ Reach G b p) := by
  unfold hitsR at h
  obtain ⟨⟨left, tab⟩, hr, hk⟩ := List.mem_flatMap.mp h
  obtain ⟨b, V, rfl, hc, _, hkeys, _⟩ := R.each left tab hr
  unfold hitsK at hk
  obtain ⟨k, _, e⟩ := List.mem_filterMap.mp hk
  obtain ⟨after, ha, e⟩ := Option.map_eq_some_iff.mp e
  obtain ⟨C, rfl⟩ := rdF_some O V ha
  cases e
  have h0 := root_of O.tree V (by lia)
  refine ⟨b, k, tab, V, hc, C, rfl, ?_, hkeys⟩
  show raisedT tab (heldN (S (T G b 0)) (s : Int) + 1 + _) = _
  rw [held_eq O V h0 hc]; rfl
theorem of_hit (O : GT G) {s : Nat} {rows : Rows} (hs : s < 6) (R : RInv G s rows) {b : Nat → Bool} {k : Nat} (V : Vd (PG G) b) (hc : card b = s) (C : Can (PG G) b k) :
    ∃ tab, (S (T G (upd b k) 0), raisedT tab (needF G b k)) ∈ hitsR (portOf G) (rdF G) s rows ∧ (∀ p, p ∈ keys tab ↔ Reach G b p) := by
  obtain ⟨⟨left, tab⟩, hr, e⟩ := List.mem_map.mp (R.all b V hc)
  simp only at e
  subst e
  obtain ⟨b', V', e', hc', _, hkeys, _⟩ := R.each _ tab hr
  have := T_inj O V V' (S_inj e')
  subst this
  have h0 := root_of O.tree V (by lia)
  refine ⟨tab, ?_, hkeys⟩
  unfold hitsR
  refine List.mem_flatMap.mpr ⟨_, hr, ?_⟩
  unfold hitsK
  refine List.mem_filterMap.mpr ⟨k, List.mem_range.mpr C.lt, ?_⟩
  rw [rdF_can O V C]
  show some (_, raisedT tab (heldN (S (T G b 0)) (s : Int) + 1 + _)) = _
  rw [held_eq O V h0 hc]; rfl
theorem at0_of {acc : Rows} {x : Str} {t : Tbl} (hn : NK acc) (h : (x, t) ∈ acc) : dget acc x = some t ∧ at0 acc x = t := by
  obtain ⟨i, hi⟩ := List.getElem?_of_mem h
  have := dget_at hn hi
  exact ⟨this, by unfold at0; rw [this]; rfl⟩

theorem rinv_zero (O : GT G) : RInv G 0 [(S (T G (fun _ => false) 0), [(0, 1)])] := by
  refine ⟨by simp [NK], fun left tab h => ?_, fun b V h => ?_⟩
  · cases List.mem_singleton.mp h
    refine ⟨_, Vd.none _, rfl, card_none, by simp [NK], fun p => ?_, ?_⟩
    · simp only [keys, List.map_cons, List.map_nil, List.mem_singleton]
      constructor
      · rintro rfl; exact .zero
      · intro h
        generalize hb : (fun _ => false : Nat → Bool) = b at h
        cases h with
        | zero => rfl
        | @step b p k _ C => have := congrFun hb k; rw [upd_self] at this; cases this
    · simp [tsum, WP, p6, factI]
  · rw [none_of V h]; simp [keys]

theorem rinv_step (O : GT G) {s : Nat} {rows : Rows} (hs : s < 6) (R : RInv G s rows) : RInv G (s + 1) (growAll (portOf G) (rdF G) s rows) := by
  have e : growAll (portOf G) (rdF G) s rows = putAll (hitsR (portOf G) (rdF G) s rows) [] := growL_hits _ _ _ _ _
  rw [e]
  have PO := putOk (hitsR (portOf G) (rdF G) s rows)
  generalize hacc : putAll (hitsR (portOf G) (rdF G) s rows) [] = acc at PO
  refine ⟨PO.nk, fun left tab h => ?_, fun b V hc => ?_⟩
  · obtain ⟨hd, ha⟩ := at0_of PO.nk h
    have hk : left ∈ keys (hitsR (portOf G) (rdF G) s rows) := (PO.keys_ left).mp (List.mem_map.mpr ⟨_, h, rfl⟩)
    obtain ⟨⟨x, t⟩, hx, ex⟩ := List.mem_map.mp hk
    simp only at ex
    subst ex
    obtain ⟨b₀, k₀, tab₀, V₀, hc₀, C₀, rfl, _, _⟩ := hit_of O hs R hx
    have Vb := V₀.up O.tree C₀
    have hcb := card_upd C₀.lt C₀.no
    generalize hb : upd b₀ k₀ = b at *
    refine ⟨b, Vb, rfl, by rw [hcb, hc₀]; lia, ha ▸ PO.each _, fun p => ?_, ?_⟩
    · rw [← ha, PO.has]
      constructor
      · rintro ⟨t', ht', hp⟩
        obtain ⟨b₁, k₁, tab₁, V₁, hc₁, C₁, ex, rfl, hkeys⟩ := hit_of O hs R ht'
        have := T_inj O Vb (V₁.up O.tree C₁) (S_inj ex)
        rw [this]
        obtain ⟨q, hq, rfl⟩ := ((raised_of _ _).2.2 p).mp hp
        exact .step ((hkeys q).mp hq) C₁
      · intro hr
        cases hr with
        | zero =>
          rw [card_none] at hcb
          have := card_le b₀; lia
        | @step b₁ q k₁ hr C₁ =>
          have hc₁ := card_upd C₁.lt C₁.no
          obtain ⟨tab₁, hh, hkeys⟩ := of_hit O hs R (hr.vd O) (by lia) C₁
          exact ⟨_, hh, ((raised_of _ _).2.2 _).mpr ⟨q, (hkeys q).mpr hr, rfl⟩⟩
    · have key : tsum tab = (rows.map fun r => s6 fun k => if rdF G r.1 k = some (S (T G b 0)) then tsum r.2 else 0).sum := by
        rw [← ha, PO.sum_, sum_hitsR]
        refine sum_congr fun r _ => s6_congr fun k _ => ?_
        cases e : rdF G r.1 k with
        | none => rw [if_neg (by simp)]
        | some after =>
          by_cases q : after = S (T G b 0)
          · rw [if_pos (by rw [q])]
            show (if after = S (T G b 0) then _ else _) = _
            rw [if_pos q]
            exact (raised_of _ _).2.1
          · rw [if_neg (by simpa using q)]
            show (if after = S (T G b 0) then _ else _) = _
            rw [if_neg q]
      have step1 : tsum tab * WP (PG G) b = (rows.map fun r => s6 fun k => if mxB (PG G) b k = true ∧ r.1 = S (T G (rem b k) 0) then szK (PG G) k * factI s else 0).sum := by
        rw [key, sum_mulR]
        refine sum_congr fun r hr => ?_
        rw [s6_mulR]
        refine s6_congr fun k hk => ?_
        obtain ⟨left, tb⟩ := r
        obtain ⟨b₁, V₁, rfl, hc₁, _, _, hw⟩ := R.each left tb hr
        by_cases q : mxB (PG G) b k = true ∧ S (T G b₁ 0) = S (T G (rem b k) 0)
        · obtain ⟨MB, eb⟩ := q
          have M := (mxB_iff hk).mpr MB
          obtain ⟨V₂, C₂⟩ := M.rem O.tree Vb
          have := T_inj O V₁ V₂ (S_inj eb)
          subst this
          show (if rdF G (S (T G (rem b k) 0)) k = some (S (T G b 0)) then tsum tb else 0) * WP (PG G) b = (if mxB (PG G) b k = true ∧ S (T G (rem b k) 0) = S (T G (rem b k) 0) then szK (PG G) k * factI s else 0)
          rw [rdF_can O V₂ C₂, upd_rem M.yes, if_pos rfl, if_pos ⟨MB, rfl⟩]
          have hW := WP_upd (P := PG G) C₂.lt C₂.no
          rw [upd_rem M.yes] at hW
          rw [hW, ← hw, Int.mul_left_comm]
        · show (if rdF G (S (T G b₁ 0)) k = some (S (T G b 0)) then tsum tb else 0) * WP (PG G) b = (if mxB (PG G) b k = true ∧ S (T G b₁ 0) = S (T G (rem b k) 0) then szK (PG G) k * factI s else 0)
          rw [if_neg q, if_neg, Int.zero_mul]
          intro hrd
          obtain ⟨C₁, ex⟩ := rdF_some O V₁ hrd
          have := T_inj O Vb (V₁.up O.tree C₁) (S_inj ex)
          refine q ⟨(mxB_iff hk).mp (this ▸ C₁.mx O.tree V₁), ?_⟩
          rw [this, rem_upd C₁.no]
      have step2 : (rows.map fun r => s6 fun k => if mxB (PG G) b k = true ∧ r.1 = S (T G (rem b k) 0) then szK (PG G) k * factI s else 0).sum = s6 fun k => ind (b k && (decide (k = 0) || !b (par (PG G) k))) * szK (PG G) k * factI s := by
        rw [sum_s6]
        refine s6_congr fun k hk => ?_
        by_cases M : Mx (PG G) b k
        · obtain ⟨V₂, C₂⟩ := M.rem O.tree Vb
          have hc₂ := card_upd C₂.lt C₂.no
          rw [upd_rem M.yes] at hc₂
          have e1 : (rows.map fun r => if mxB (PG G) b k = true ∧ r.1 = S (T G (rem b k) 0) then szK (PG G) k * factI s else 0).sum = (rows.map fun r => if r.1 = S (T G (rem b k) 0) then szK (PG G) k * factI s else 0).sum :=
            sum_congr fun r _ => by
              by_cases q : r.1 = S (T G (rem b k) 0)
              · rw [if_pos ⟨(mxB_iff hk).mp M, q⟩, if_pos q]
              · rw [if_neg (fun z => q z.2), if_neg q]
          rw [e1, sum_once R.nk, if_pos (R.all _ V₂ (by lia))]
          have : (b k && (decide (k = 0) || !b (par (PG G) k))) = true := by
            rw [M.yes]
            rcases M.top with z | z
            · simp [z]
            · simp [z]
          rw [this]
          simp [ind]
        · have e1 : (rows.map fun r => if mxB (PG G) b k = true ∧ r.1 = S (T G (rem b k) 0) then szK (PG G) k * factI s else 0).sum = (rows.map fun _ => (0 : Int)).sum :=
            sum_congr fun r _ => if_neg fun z => M ((mxB_iff hk).mpr z.1)
          have e0 : ∀ l : Rows, (l.map fun _ => (0 : Int)).sum = 0 := by
            intro l
            induction l with
            | nil => rfl
            | cons x l ih => rw [List.map_cons, List.sum_cons, ih]; rfl
          rw [e1, e0]
          have : (b k && (decide (k = 0) || !b (par (PG G) k))) = false := by
            cases e : b k with
            | false => rfl
            | true =>
              cases e2 : b (par (PG G) k) with
              | false => exact absurd ⟨hk, e, .inr e2⟩ M
              | true =>
                have : k ≠ 0 := fun z => M ⟨hk, e, .inl z⟩
                simp [this]
          rw [this]
          simp [ind]
      rw [step1, step2, ← s6_mulR, sz_max O.tree Vb, hcb, hc₀]
      rfl
  · obtain ⟨k, M⟩ := mx_exists (P := PG G) O.tree (b := b) (by lia)
    obtain ⟨V', C⟩ := M.rem O.tree V
    have h := card_upd C.lt C.no
    rw [upd_rem M.yes] at h
    obtain ⟨tab, hh, _⟩ := of_hit O hs R V' (by lia) C
    rw [upd_rem M.yes] at hh
    exact (PO.keys_ _).mpr (List.mem_map.mpr ⟨_, hh, rfl⟩)
theorem rinv_all (O : GT G) : ∀ s, s ≤ 6 → RInv G s (rowsN (portOf G) (rdF G) (S (T G (fun _ => false) 0)) s)
  | 0, _ => rinv_zero O
  | s + 1, h => rinv_step O (by lia) (rinv_all O s (by lia))
end
end Mine

namespace Mine
open PySem PySem.Calls PySem.W

theorem few_below : ∀ (n : Nat) (l : List Nat), l.Nodup → (∀ x ∈ l, x < n) → l.length ≤ n
  | 0, [], _, _ => Nat.le_refl _
  | 0, x :: l, _, h => absurd (h x (List.mem_cons_self ..)) (by lia)
  | n + 1, l, hn, h => by
    by_cases q : n ∈ l
    · have h1 := few_below n (l.erase n) (hn.erase n) (fun x hx => by
        have := (List.Nodup.mem_erase_iff hn).mp hx
        have := h x this.2
        lia)
      have := List.length_erase_of_mem q
      lia
    · have := few_below n l hn fun x hx => by
        have := h x hx
        have : x ≠ n := fun z => q (z ▸ hx)
        lia
      lia
theorem few_keys {t : Tbl} (hn : NK t) (h : ∀ p ∈ keys t, 0 ≤ p ∧ p ≤ 10) : t.length ≤ 11 := by
  have h1 : ((keys t).map Int.toNat).Nodup := List.pairwise_map.mpr (List.Pairwise.imp_of_mem (fun {x y} ha hb hne => by
    have := h x ha
    have := h y hb
    lia) hn)
  have := few_below 11 _ h1 (fun x hx => by
    obtain ⟨p, hp, rfl⟩ := List.mem_map.mp hx
    have := h p hp
    lia)
  simpa [keys] using this

section
variable {G : List Grp}
/-- a number that tells which groups a text holds read -/
noncomputable def bit (p : Bool) : Nat := if p = true then 1 else 0
noncomputable def codeB (b : Nat → Bool) : Nat := bit (b 0) + 2 * bit (b 1) + 4 * bit (b 2) + 8 * bit (b 3) + 16 * bit (b 4) + 32 * bit (b 5)
theorem six_lt : ∀ a b c d e f : Bool, bit a + 2 * bit b + 4 * bit c + 8 * bit d + 16 * bit e + 32 * bit f < 64 := by decide +kernel
theorem six_inj : ∀ a b c d e f a' b' c' d' e' f' : Bool, bit a + 2 * bit b + 4 * bit c + 8 * bit d + 16 * bit e + 32 * bit f = bit a' + 2 * bit b' + 4 * bit c' + 8 * bit d' + 16 * bit e' + 32 * bit f' →
    a = a' ∧ b = b' ∧ c = c' ∧ d = d' ∧ e = e' ∧ f = f' := by decide +kernel
theorem code_lt (b : Nat → Bool) : codeB b < 64 := six_lt _ _ _ _ _ _
theorem code_inj {b b' : Nat → Bool} (h : codeB b = codeB b') : ∀ k, k < 6 → b k = b' k := by
  obtain ⟨h0, h1, h2, h3, h4, h5⟩ := six_inj _ _ _ _ _ _ _ _ _ _ _ _ h
  intro k hk
  match k, hk with
  | 0, _ => exact h0
  | 1, _ => exact h1
  | 2, _ => exact h2
  | 3, _ => exact h3
  | 4, _ => exact h4
  | 5, _ => exact h5
open Classical in
noncomputable def codeT (G : List Grp) (x : Str) : Nat := if h : ∃ b, Vd (PG G) b ∧ x = S (T G b 0) then codeB h.choose else 0
theorem codeT_of (O : GT G) {b : Nat → Bool} (V : Vd (PG G) b) : codeT G (S (T G b 0)) = codeB b := by
  have h : ∃ b', Vd (PG G) b' ∧ S (T G b 0) = S (T G b' 0) := ⟨b, V, rfl⟩
  unfold codeT
  rw [dif_pos h]
  obtain ⟨h1, h2⟩ := h.choose_spec
  rw [← T_inj O V h1 (S_inj h2)]
theorem codeT_lt (O : GT G) (x : Str) : codeT G x < 64 := by
  unfold codeT
  split
  · exact code_lt _
  · lia
theorem few_rows (O : GT G) {s : Nat} {rows : Rows} (R : RInv G s rows) : rows.length ≤ 64 := by
  have hm : ∀ x ∈ keys rows, ∃ b, Vd (PG G) b ∧ x = S (T G b 0) := by
    intro x hx
    obtain ⟨⟨left, tab⟩, hr, rfl⟩ := List.mem_map.mp hx
    obtain ⟨b, V, e, _⟩ := R.each left tab hr
    exact ⟨b, V, e⟩
  have h1 : ((keys rows).map (codeT G)).Nodup := List.pairwise_map.mpr (List.Pairwise.imp_of_mem (fun {x y} ha hb hne e => by
    obtain ⟨b, V, rfl⟩ := hm x ha
    obtain ⟨b', V', rfl⟩ := hm y hb
    rw [codeT_of O V, codeT_of O V'] at e
    exact hne (by rw [V.ext V' (code_inj e)])) R.nk)
  have := few_below 64 _ h1 (fun x hx => by
    obtain ⟨p, hp, rfl⟩ := List.mem_map.mp hx
    exact codeT_lt O p)
  simpa [keys] using this
theorem hitsK_len (port : Nat → Nat) (rd : Str → Nat → Option Str) (step : Int) (p : Str × Tbl) (ks : List Nat) : (hitsK port rd step p ks).length ≤ ks.length := List.length_filterMap_le _ _
theorem hitsR_len (port : Nat → Nat) (rd : Str → Nat → Option Str) (step : Int) : ∀ rows : Rows, (hitsR port rd step rows).length ≤ 6 * rows.length
  | [] => by simp [hitsR]
  | p :: rows => by
    have h1 := hitsK_len port rd step p (List.range 6)
    have h2 := hitsR_len port rd step rows
    unfold hitsR at h2 ⊢
    rw [List.flatMap_cons, List.length_append, List.length_cons]
    rw [List.length_range] at h1
    lia
theorem putAll_len : ∀ (hits : List (Str × Tbl)) (acc : Rows), (putAll hits acc).length ≤ acc.length + hits.length
  | [], acc => Nat.le_refl _
  | h :: hits, acc => by
    have := putAll_len hits (putRow acc h.1 h.2)
    have h2 : (putRow acc h.1 h.2).length ≤ acc.length + 1 := dput_len _ _ _
    show (putAll hits (putRow acc h.1 h.2)).length ≤ _
    rw [List.length_cons]
    lia
theorem walkOk (O : GT G) {s : Nat} {rows : Rows} (hs : s < 6) (R : RInv G s rows) : WalkOk G (rdF G) (s : Int) rows := by
  refine ⟨fun i left tab h => ?_, by have := few_rows O R; lia, fun i j left tab h hj => ?_⟩
  · have hm := List.mem_of_getElem? h
    obtain ⟨b, V, rfl, hc, hn, hk, _⟩ := R.each left tab hm
    refine ⟨(at0_of R.nk hm).1, ?_, hn, ?_, fun k g hk6 hg => rdg_all O V hk6 hg⟩
    · rw [S_len]; have := T_small (b := b) O (k := 0) (by lia); lia
    · have := few_keys hn fun p hp => ((hk p).mp hp).bound
      lia
  · have hm := List.mem_of_getElem? h
    have hi := (List.getElem?_eq_some_iff.mp h).1
    have e : ((List.range j).foldl (grow1 (portOf G) (rdF G) s left tab) ((rows.take i).foldl (growL (portOf G) (rdF G) s) [])) = putAll (hitsR (portOf G) (rdF G) s (rows.take i) ++ hitsK (portOf G) (rdF G) s (left, tab) (List.range j)) [] := by
      rw [putAll_app, ← growL_hits]
      exact grow_hits (portOf G) (rdF G) s (left, tab) (List.range j) _
    rw [e]
    have l1 := hitsR_len (portOf G) (rdF G) s (rows.take i)
    have l2 := hitsK_len (portOf G) (rdF G) s (left, tab) (List.range j)
    have l3 := few_rows O R
    rw [List.length_take] at l1
    rw [List.length_range] at l2
    have sub : ∀ x t, (x, t) ∈ hitsR (portOf G) (rdF G) s (rows.take i) ++ hitsK (portOf G) (rdF G) s (left, tab) (List.range j) → (x, t) ∈ hitsR (portOf G) (rdF G) s rows := by
      intro x t hx
      unfold hitsR
      rcases List.mem_append.mp hx with hx | hx
      · unfold hitsR at hx
        obtain ⟨p, hp, hh⟩ := List.mem_flatMap.mp hx
        exact List.mem_flatMap.mpr ⟨p, List.mem_of_mem_take hp, hh⟩
      · refine List.mem_flatMap.mpr ⟨_, hm, ?_⟩
        unfold hitsK at hx ⊢
        obtain ⟨k, hk, e⟩ := List.mem_filterMap.mp hx
        exact List.mem_filterMap.mpr ⟨k, List.mem_range.mpr (by have := List.mem_range.mp hk; lia), e⟩
    have PO := putOk (hitsR (portOf G) (rdF G) s (rows.take i) ++ hitsK (portOf G) (rdF G) s (left, tab) (List.range j))
    refine ⟨?_, fun after t ht => ?_⟩
    · have := putAll_len (hitsR (portOf G) (rdF G) s (rows.take i) ++ hitsK (portOf G) (rdF G) s (left, tab) (List.range j)) []
      rw [List.length_append] at this
      simp only [List.length_nil] at this
      lia
    · have ha := (at0_of PO.nk (mem_of_dget ht)).2
      have hn : NK t := ha ▸ PO.each after
      refine ⟨?_, hn⟩
      have := few_keys hn fun p hp => by
        rw [← ha, PO.has] at hp
        obtain ⟨t', ht', hp⟩ := hp
        obtain ⟨b, k, tb, V, hc, C, _, rfl, hkeys⟩ := hit_of O hs R (sub _ _ ht')
        obtain ⟨q, hq, rfl⟩ := ((raised_of _ _).2.2 p).mp hp
        have h1 := ((hkeys q).mp hq).bound
        have h2 := need_bound (G := G) b k
        lia
      lia

/-- what stands at the end -/
theorem rows_six (O : GT G) : ∃ t, rowsN (portOf G) (rdF G) (S (T G (fun _ => false) 0)) 6 = [(S [97], t)] ∧ NK t ∧ (∀ p, p ∈ keys t ↔ Reach G whole p) ∧ tsum t * WP (PG G) whole = 720 := by
  have R := rinv_all O 6 (by lia)
  generalize rowsN (portOf G) (rdF G) (S (T G (fun _ => false) 0)) 6 = rows at R
  have hw : ∀ left tab, (left, tab) ∈ rows → left = S [97] ∧ NK tab ∧ (∀ p, p ∈ keys tab ↔ Reach G whole p) ∧ tsum tab * WP (PG G) whole = 720 := by
    intro left tab h
    obtain ⟨b, V, e, hc, hn, hk, hs⟩ := R.each left tab h
    have := whole_of V hc
    subst this
    refine ⟨?_, hn, hk, hs⟩
    rw [e, T_read (by lia) (whole_lt (by lia))]
  have hmem := R.all whole (Vd.whole _) card_whole
  cases rows with
  | nil => cases hmem
  | cons r rows =>
    obtain ⟨x, t⟩ := r
    obtain ⟨rfl, h1, h2, h3⟩ := hw x t (List.mem_cons_self ..)
    cases rows with
    | nil => exact ⟨t, rfl, h1, h2, h3⟩
    | cons r' rows =>
      obtain ⟨y, t'⟩ := r'
      obtain ⟨rfl, _⟩ := hw y t' (by simp)
      have := (List.nodup_cons.mp R.nk).1
      exact absurd (by simp) this
end
end Mine

namespace Mine
open PySem PySem.Calls PySem.W

/-! ### lists of numbers side by side -/
theorem sum_le {l : List Nat} {f g : Nat → Int} (h : ∀ x ∈ l, f x ≤ g x) : (l.map f).sum ≤ (l.map g).sum := by
  induction l with
  | nil => exact Int.le_refl _
  | cons x l ih =>
    rw [List.map_cons, List.map_cons, List.sum_cons, List.sum_cons]
    have := h x (List.mem_cons_self ..)
    have := ih fun y hy => h y (List.mem_cons_of_mem _ hy)
    lia
theorem sum_but {l : List Nat} (hn : l.Nodup) {j : Nat} (hj : j ∈ l) {f g : Nat → Int} (h : ∀ x ∈ l, x ≠ j → f x = g x) : (l.map f).sum - f j = (l.map g).sum - g j := by
  induction l with
  | nil => cases hj
  | cons x l ih =>
    rw [List.map_cons, List.map_cons, List.sum_cons, List.sum_cons]
    obtain ⟨h1, h2⟩ := List.nodup_cons.mp hn
    rcases List.mem_cons.mp hj with rfl | hj
    · have e : l.map f = l.map g := List.map_congr_left fun y hy => h y (List.mem_cons_of_mem _ hy) fun z => h1 (z ▸ hy)
      rw [e]; lia
    · have := h x (List.mem_cons_self ..) fun z => h1 (z ▸ hj)
      have := ih h2 hj fun y hy => h y (List.mem_cons_of_mem _ hy)
      lia
theorem sum_but_le {l : List Nat} (hn : l.Nodup) {j : Nat} (hj : j ∈ l) {f g : Nat → Int} (h : ∀ x ∈ l, x ≠ j → f x ≤ g x) : (l.map f).sum - f j ≤ (l.map g).sum - g j := by
  induction l with
  | nil => cases hj
  | cons x l ih =>
    rw [List.map_cons, List.map_cons, List.sum_cons, List.sum_cons]
    obtain ⟨h1, h2⟩ := List.nodup_cons.mp hn
    rcases List.mem_cons.mp hj with rfl | hj
    · have e : (l.map f).sum ≤ (l.map g).sum := sum_le fun y hy => h y (List.mem_cons_of_mem _ hy) fun z => h1 (z ▸ hy)
      lia
    · have := h x (List.mem_cons_self ..) fun z => h1 (z ▸ hj)
      have := ih h2 hj fun y hy => h y (List.mem_cons_of_mem _ hy)
      lia
theorem sum_more {l : List Nat} (hn : l.Nodup) {j : Nat} (hj : j ∈ l) {f : Nat → Int} {p : Nat → Bool} (hp : p j = true) (h0 : ∀ x ∈ l, 0 ≤ f x) (h : ∀ x ∈ l, p x = true → x ≠ j → 1 ≤ f x) : f j + ((l.filter p).length : Int) - 1 ≤ (l.map f).sum := by
  have all : ∀ l : List Nat, (∀ x ∈ l, 0 ≤ f x) → (∀ x ∈ l, p x = true → 1 ≤ f x) → ((l.filter p).length : Int) ≤ (l.map f).sum := by
    intro l
    induction l with
    | nil => intro _ _; exact Int.le_refl _
    | cons x l ih =>
      intro a b
      have := ih (fun y hy => a y (List.mem_cons_of_mem _ hy)) fun y hy => b y (List.mem_cons_of_mem _ hy)
      have := a x (List.mem_cons_self ..)
      rw [List.filter_cons, List.map_cons, List.sum_cons]
      split
      · rename_i q
        have := b x (List.mem_cons_self ..) q
        rw [List.length_cons]; lia
      · lia
  induction l with
  | nil => cases hj
  | cons x l ih =>
    rw [List.filter_cons, List.map_cons, List.sum_cons]
    obtain ⟨h1, h2⟩ := List.nodup_cons.mp hn
    rcases List.mem_cons.mp hj with rfl | hj
    · rw [if_pos hp, List.length_cons]
      have := all l (fun y hy => h0 y (List.mem_cons_of_mem _ hy)) fun y hy q => h y (List.mem_cons_of_mem _ hy) q fun z => h1 (z ▸ hy)
      lia
    · have := ih h2 hj (fun y hy => h0 y (List.mem_cons_of_mem _ hy)) fun y hy => h y (List.mem_cons_of_mem _ hy)
      have a := h0 x (List.mem_cons_self ..)
      have b := h x (List.mem_cons_self ..)
      split
      · rename_i q
        have := b q fun z => h1 (z ▸ hj)
        rw [List.length_cons]; lia
      · lia
theorem sum_ind (p : Nat → Bool) : ∀ l : List Nat, (l.map fun x => ind (p x)).sum = ((l.filter p).length : Int)
  | [] => rfl
  | x :: l => by
    rw [List.map_cons, List.sum_cons, sum_ind p l, List.filter_cons]
    unfold ind
    cases p x <;> simp <;> lia

/-! ### how many are held of a group's own -/
section
variable {P : List Int} {b b' : Nat → Bool}
noncomputable def HF (b : Nat → Bool) (k : Nat) (l : List Int) : Int := if b k = true then 1 else l.sum
noncomputable def H (P : List Int) (b : Nat → Bool) (k : Nat) : Int := at6 (kidsP P) (HF b) 0 k
theorem H_eq {k : Nat} (hk : k < 6) : H P b k = if b k = true then 1 else ((kidsP P k).map (H P b)).sum := at6_eq (kidsP_down P) hk
theorem H_read {k : Nat} (hk : k < 6) (h : b k = true) : H P b k = 1 := by rw [H_eq hk, if_pos h]
theorem H_open {k : Nat} (hk : k < 6) (h : b k = false) : H P b k = ((kidsP P k).map (H P b)).sum := by rw [H_eq hk, if_neg (by rw [h]; decide)]
theorem kid6 {k j : Nat} (h : j ∈ kidsP P k) : j < 6 := ((kidsP_down P).lt k j h).2
theorem H_congr (D : PT P) : ∀ k, k < 6 → (∀ x, Anc P k x → b' x = b x) → H P b' k = H P b k := by
  refine inward (P := P) fun k hk ih h => ?_
  rw [H_eq hk, H_eq hk, h k .refl]
  split
  · rfl
  · congr 1
    exact List.map_congr_left fun j hj => ih j hj fun x hx => h x (hx.of_kid D hj)
theorem sum_nonneg {l : List Nat} {f : Nat → Int} (h : ∀ x ∈ l, 0 ≤ f x) : 0 ≤ (l.map f).sum := by
  have := sum_le (l := l) (f := fun _ => 0) h
  have e : ∀ l : List Nat, (l.map fun _ => (0 : Int)).sum = 0 := by
    intro l
    induction l with
    | nil => rfl
    | cons x l ih => rw [List.map_cons, List.sum_cons, ih]; rfl
  rw [e] at this; exact this
theorem H_nonneg : ∀ k, k < 6 → 0 ≤ H P b k := by
  refine inward (P := P) fun k hk ih => ?_
  rw [H_eq hk]
  split
  · lia
  · exact sum_nonneg ih
theorem H_zero (D : PT P) (V : Vd P b) : ∀ k, k < 6 → (H P b k = 0 ↔ ∀ x, Anc P k x → b x = false) := by
  refine inward (P := P) fun k hk ih => ?_
  constructor
  · intro h
    have hb : b k = false := by
      cases e : b k with
      | false => rfl
      | true => rw [H_read hk e] at h; cases h
    rw [H_open hk hb] at h
    have each : ∀ j ∈ kidsP P k, H P b j = 0 := by
      have go : ∀ l : List Nat, (∀ j ∈ l, 0 ≤ H P b j) → (l.map (H P b)).sum = 0 → ∀ j ∈ l, H P b j = 0 := by
        intro l
        induction l with
        | nil => intro _ _ j hj; cases hj
        | cons x l ihl =>
          intro h0 hs j hj
          rw [List.map_cons, List.sum_cons] at hs
          have a := h0 x (List.mem_cons_self ..)
          have c := sum_nonneg (l := l) (f := H P b) fun y hy => h0 y (List.mem_cons_of_mem _ hy)
          rcases List.mem_cons.mp hj with rfl | hj
          · lia
          · exact ihl (fun y hy => h0 y (List.mem_cons_of_mem _ hy)) (by lia) j hj
      exact go _ (fun j hj => H_nonneg j (kid6 hj)) h
    intro x hx
    by_cases q : k = x
    · rw [← q]; exact hb
    · obtain ⟨j, hj, hx⟩ := hx.via D q
      exact (ih j hj).mp (each j hj) x hx
  · intro h
    rw [H_open hk (h k .refl)]
    have : (kidsP P k).map (H P b) = (kidsP P k).map fun _ => (0 : Int) := List.map_congr_left fun j hj => (ih j hj).mpr fun x hx => h x (hx.of_kid D hj)
    rw [this]
    have e : ∀ l : List Nat, (l.map fun _ => (0 : Int)).sum = 0 := by
      intro l
      induction l with
      | nil => rfl
      | cons x l ih => rw [List.map_cons, List.sum_cons, ih]; rfl
    exact e _
theorem H_kids {k : Nat} (hk : k < 6) (hb : b k = false) (h : ∀ j ∈ kidsP P k, b j = true) : H P b k = ((kidsP P k).length : Int) := by
  rw [H_open hk hb]
  have : (kidsP P k).map (H P b) = (kidsP P k).map fun x => ind (b x) := List.map_congr_left fun j hj => by rw [H_read (kid6 hj) (h j hj), h j hj]; rfl
  rw [this, sum_ind]
  congr 2
  exact List.filter_eq_self.mpr h
/-- the law's held: those of the whole tree -/
theorem held_H (D : PT P) (V : Vd P b) (h0 : b 0 = false) : heldF P b = H P b 0 := by
  have h := edge_sum D (fun k => ind (!b k)) (H P b)
  have e1 : (s6 fun k => ind (!b k) * ((kidsP P k).map (H P b)).sum) = s6 fun k => ind (!b k) * H P b k := s6_congr fun k hk => by
    cases e : b k with
    | true => simp [ind]
    | false => rw [H_open hk e]
  have e2 : (s6 fun j => if 1 ≤ j then ind (!b (par P j)) * H P b j else 0) = s6 fun j => ind (hld P b j) + if 1 ≤ j then ind (!b j) * H P b j else 0 := s6_congr fun j hj => by
    by_cases h1 : 1 ≤ j
    · rw [if_pos h1, if_pos h1]
      unfold hld
      cases e : b j with
      | true => rw [H_read hj e]; simp [h1, ind]
      | false =>
        have : b (par P j) = false := by
          cases e2 : b (par P j) with
          | false => rfl
          | true => rw [V.down j h1 hj e2] at e; cases e
        rw [this]; simp [ind]
    · have : j = 0 := by lia
      subst this
      simp [hld, ind]
  rw [e1, e2, s6_add] at h
  have e3 : (s6 fun k => ind (!b k) * H P b k) = (s6 fun j => if 1 ≤ j then ind (!b j) * H P b j else 0) + H P b 0 := by
    simp only [s6, h0]
    simp [ind]
    lia
  unfold heldF
  lia
theorem H_one_more (D : PT P) {r j : Nat} (hr : r < 6) (hj : j ∈ kidsP P r) (hb : b r = false) (hb' : b' r = false) (h : ∀ x, ¬ Anc P j x → b' x = b x) : H P b' r - H P b' j = H P b r - H P b j := by
  rw [H_open hr hb, H_open hr hb']
  refine sum_but (kids_nodup P r) hj fun i hi hne => ?_
  exact H_congr D i (kid6 hi) fun x hx => h x fun z => hne (Anc.apart D hi hj hx z)

/-! ### from one state to another -/
inductive Go (P : List Int) (rm : Nat → Int) (r : Nat) (c : Int) (b : Nat → Bool) : (Nat → Bool) → Prop
  | refl : Go P rm r c b b
  | step {b' : Nat → Bool} {k : Nat} : Go P rm r c b b' → Can P b' k → Anc P r k → H P b' r + rm k ≤ c → Go P rm r c b (upd b' k)
variable {rm : Nat → Int}
theorem Go.off {r : Nat} {c : Int} (h : Go P rm r c b b') : ∀ x, ¬ Anc P r x → b' x = b x := by
  induction h with
  | refl => intro x _; rfl
  | step _ C hA _ ih => intro x hx; rw [upd_ne _ (fun (z : x = _) => hx (by rw [z]; exact hA))]; exact ih x hx
theorem Go.vd (D : PT P) {r : Nat} {c : Int} (h : Go P rm r c b b') (V : Vd P b) : Vd P b' := by
  induction h with
  | refl => exact V
  | step _ C _ _ ih => exact ih.up D C
theorem Go.mono {r : Nat} {c c' : Int} (h : Go P rm r c b b') (hc : c ≤ c') : Go P rm r c' b b' := by
  induction h with
  | refl => exact .refl
  | step _ C hA hle ih => exact .step ih C hA (by lia)
theorem Go.trans {r : Nat} {c : Int} {b'' : Nat → Bool} (h : Go P rm r c b b') (h2 : Go P rm r c b' b'') : Go P rm r c b b'' := by
  induction h2 with
  | refl => exact h
  | step _ C hA hle ih => exact .step ih C hA hle
theorem Go.lift (D : PT P) {r j : Nat} {c : Int} (hr : r < 6) (hj : j ∈ kidsP P r) (hb : b r = false) (h : Go P rm j c b b') : Go P rm r (c + (H P b r - H P b j)) b b' := by
  have hnr : ¬ Anc P j r := fun z => by have := z.le D; have := (kid_iff D).mp hj; lia
  induction h with
  | refl => exact .refl
  | @step b₁ k hg C hA hle ih =>
    have e := H_one_more D hr hj hb ((hg.off r hnr).trans hb) (fun x hx => hg.off x hx)
    exact .step ih C (hA.of_kid D hj) (by lia)

/-! the order of two groups within the same -/
noncomputable def keyP (d : Int) (p : Int × Int) : Int := -(p.1) * 10 + d * p.2
theorem cmp_key {d : Int} (hd : d = 1 ∨ d = -1) {p q : Int × Int} (hp : 0 ≤ p.2 ∧ p.2 < 6) (hq : 0 ≤ q.2 ∧ q.2 < 6) : cmpP (-1) d p q < 0 ↔ keyP d p < keyP d q := by
  unfold cmpP keyP
  rcases hd with rfl | rfl
  · split
    · lia
    · split
      · lia
      · split
        · lia
        · split <;> lia
  · split
    · lia
    · split
      · lia
      · split
        · lia
        · split <;> lia
theorem min_key (f : Nat → Int) : ∀ (l : List Nat), l ≠ [] → ∃ j ∈ l, ∀ i ∈ l, f j ≤ f i
  | [], h => absurd rfl h
  | [x], _ => ⟨x, List.mem_singleton.mpr rfl, fun i hi => by rw [List.mem_singleton.mp hi]; exact Int.le_refl _⟩
  | x :: y :: l, _ => by
    obtain ⟨j, hj, hm⟩ := min_key f (y :: l) (by simp)
    by_cases q : f x ≤ f j
    · refine ⟨x, List.mem_cons_self .., fun i hi => ?_⟩
      rcases List.mem_cons.mp hi with rfl | hi
      · exact Int.le_refl _
      · exact Int.le_trans q (hm i hi)
    · refine ⟨j, List.mem_cons_of_mem _ hj, fun i hi => ?_⟩
      rcases List.mem_cons.mp hi with rfl | hi
      · lia
      · exact hm i hi

variable {R : List Int} {d : Int}
noncomputable def keyK (P R : List Int) (d : Int) (j : Nat) : Int := keyP d (lstK P R d j, (j : Int))
theorem ahead_eq (hd : d = 1 ∨ d = -1) {r j : Nat} (hj : j ∈ kidsP P r) : aheadN d (rowsK P R d r) (lstK P R d j, (j : Int)) = (((kidsP P r).filter fun i => decide (keyK P R d i < keyK P R d j)).length : Int) := by
  unfold aheadN rowsK
  rw [List.filter_map, List.length_map]
  congr 2
  refine List.filter_congr fun i hi => ?_
  have h1 := kid6 hi
  have h2 := kid6 hj
  have := cmp_key hd (p := (lstK P R d i, (i : Int))) (q := (lstK P R d j, (j : Int))) ⟨by simp only; lia, by simp only; lia⟩ ⟨by simp only; lia, by simp only; lia⟩
  simp only [Function.comp]
  exact decide_eq_decide.mpr this
theorem wait_le (hd : d = 1 ∨ d = -1) {r j : Nat} (hr : r < 6) (hj : j ∈ kidsP P r) : lstK P R d j + (((kidsP P r).filter fun i => decide (keyK P R d i < keyK P R d j)).length : Int) ≤ lstK P R d r := by
  rw [lstK_eq hr, ← ahead_eq hd hj]
  refine lmax_ge (List.mem_cons_of_mem _ ?_)
  unfold waitsL
  exact List.mem_map.mpr ⟨(lstK P R d j, (j : Int)), List.mem_map.mpr ⟨j, hj, rfl⟩, rfl⟩
theorem own_le {r : Nat} (hr : r < 6) : ((kidsP P r).length : Int) + pAt R r ≤ lstK P R d r := by
  rw [lstK_eq hr]
  exact lmax_ge (List.mem_cons_self ..)
theorem lst_cases (hd : d = 1 ∨ d = -1) {r : Nat} (hr : r < 6) : lstK P R d r = ((kidsP P r).length : Int) + pAt R r ∨ ∃ j ∈ kidsP P r, lstK P R d r = lstK P R d j + (((kidsP P r).filter fun i => decide (keyK P R d i < keyK P R d j)).length : Int) := by
  have h := lmax_mem (l := (((kidsP P r).length : Int) + pAt R r) :: waitsL d (rowsK P R d r)) (by simp)
  rw [← lstK_eq hr] at h
  rcases List.mem_cons.mp h with h | h
  · exact .inl h
  · unfold waitsL at h
    obtain ⟨p, hp, e⟩ := List.mem_map.mp h
    obtain ⟨j, hj, rfl⟩ := List.mem_map.mp hp
    exact .inr ⟨j, hj, by rw [← e, ahead_eq hd hj]⟩
theorem key_inj {i j : Nat} (hd : d = 1 ∨ d = -1) (hi : i < 6) (hj : j < 6) (h : keyK P R d i = keyK P R d j) : i = j := by
  unfold keyK keyP at h
  simp only at h
  rcases hd with rfl | rfl <;> lia
theorem key_lst {i j : Nat} (hd : d = 1 ∨ d = -1) (hi : i < 6) (hj : j < 6) (h : keyK P R d i ≤ keyK P R d j) : lstK P R d j ≤ lstK P R d i := by
  unfold keyK keyP at h
  simp only at h
  rcases hd with rfl | rfl <;> lia

/-- the order that needs the least -/
theorem achieve (D : PT P) (hd : d = 1 ∨ d = -1) : ∀ r, r < 6 → ∀ b, Vd P b → (∀ x, Anc P r x → b x = false) → ∃ b', Go P (pAt R) r (lstK P R d r) b b' ∧ b' r = true := by
  refine inward (P := P) fun r hr ih b V hno => ?_
  have inner : ∀ (n : Nat) (b₁ : Nat → Bool), ((kidsP P r).filter fun i => !b₁ i).length = n → Vd P b₁ → b₁ r = false → (∀ j ∈ kidsP P r, b₁ j = true ∨ ∀ x, Anc P j x → b₁ x = false) →
      (∀ i ∈ kidsP P r, ∀ j ∈ kidsP P r, b₁ i = true → b₁ j = false → keyK P R d i < keyK P R d j) →
      ∃ b', Go P (pAt R) r (lstK P R d r) b₁ b' ∧ b' r = false ∧ ∀ j ∈ kidsP P r, b' j = true := by
    intro n
    induction n using Nat.strongRecOn with
    | ind n ihn =>
      intro b₁ hn V₁ hr₁ hst hord
      by_cases hall : ∀ j ∈ kidsP P r, b₁ j = true
      · exact ⟨b₁, .refl, hr₁, hall⟩
      have hne : (kidsP P r).filter (fun i => !b₁ i) ≠ [] := fun z => hall fun j hj => by
        cases e : b₁ j with
        | true => rfl
        | false =>
          have : j ∈ (kidsP P r).filter (fun i => !b₁ i) := List.mem_filter.mpr ⟨hj, by rw [e]; rfl⟩
          rw [z] at this; cases this
      obtain ⟨j, hjm, hmin⟩ := min_key (keyK P R d) _ hne
      obtain ⟨hj, hjn⟩ := List.mem_filter.mp hjm
      have hjb : b₁ j = false := by simpa using hjn
      have hj6 := kid6 hj
      have hjno : ∀ x, Anc P j x → b₁ x = false := by
        rcases hst j hj with z | z
        · rw [z] at hjb; cases hjb
        · exact z
      obtain ⟨b₂, g, hb₂⟩ := ih j hj b₁ V₁ hjno
      have hnr : ¬ Anc P j r := fun z => by have := z.le D; have := (kid_iff D).mp hj; lia
      have h0 : H P b₁ j = 0 := (H_zero D V₁ j hj6).mpr hjno
      have hHr : H P b₁ r = (((kidsP P r).filter b₁).length : Int) := by
        rw [H_open hr hr₁, ← sum_ind]
        congr 1
        refine List.map_congr_left fun i hi => ?_
        rcases hst i hi with z | z
        · rw [H_read (kid6 hi) z, z]; rfl
        · rw [(H_zero D V₁ i (kid6 hi)).mpr z, z i .refl]; rfl
      have hcnt : ((kidsP P r).filter b₁).length ≤ ((kidsP P r).filter fun i => decide (keyK P R d i < keyK P R d j)).length := by
        rw [← List.countP_eq_length_filter, ← List.countP_eq_length_filter]
        exact List.countP_mono_left fun i hi hb => decide_eq_true (hord i hi j hj hb hjb)
      have hw := wait_le (R := R) (P := P) hd hr hj
      have g2 := (g.lift D hr hj hr₁).mono (c' := lstK P R d r) (by rw [h0, hHr]; lia)
      have V₂ := g.vd D V₁
      have hr₂ : b₂ r = false := (g.off r hnr).trans hr₁
      have same : ∀ i ∈ kidsP P r, i ≠ j → ∀ x, Anc P i x → b₂ x = b₁ x := fun i hi hne x hx => g.off x fun z => hne (Anc.apart D hi hj hx z)
      have hlt : ((kidsP P r).filter fun i => !b₂ i).length < n := by
        rw [← hn]
        have hsub : (kidsP P r).filter (fun i => !b₂ i) = ((kidsP P r).filter fun i => !b₁ i).filter fun i => decide (i ≠ j) := by
          rw [List.filter_filter]
          refine List.filter_congr fun i hi => ?_
          by_cases q : i = j
          · subst q; rw [hb₂]; simp
          · rw [same i hi q i .refl]; simp [q]
        rw [hsub]
        have := List.length_filter_lt_length_iff_exists (l := (kidsP P r).filter fun i => !b₁ i) (p := fun i => decide (i ≠ j))
        exact this.mpr ⟨j, hjm, by simp⟩
      obtain ⟨b', g3, e1, e2⟩ := ihn _ hlt b₂ rfl V₂ hr₂ (fun i hi => by
        by_cases q : i = j
        · subst q; exact .inl hb₂
        · rcases hst i hi with z | z
          · exact .inl ((same i hi q i .refl).trans z)
          · exact .inr fun x hx => (same i hi q x hx).trans (z x hx)) (fun i hi k hk hbi hbk => by
        have hkj : k ≠ j := fun z => by rw [z, hb₂] at hbk; cases hbk
        have hbk₁ : b₁ k = false := (same k hk hkj k .refl).symm.trans hbk
        by_cases q : i = j
        · subst q
          have h1 := hmin k (List.mem_filter.mpr ⟨hk, by rw [hbk₁]; rfl⟩)
          have h2 : keyK P R d i ≠ keyK P R d k := fun z => hkj (key_inj hd (kid6 hk) hj6 z.symm)
          lia
        · exact hord i hi k hk ((same i hi q i .refl).symm.trans hbi) hbk₁)
      exact ⟨b', g2.trans g3, e1, e2⟩
  obtain ⟨b', g, e1, e2⟩ := inner _ b rfl V (hno r .refl) (fun j hj => .inr fun x hx => hno x (hx.of_kid D hj)) (fun i hi j hj hbi _ => by
    rw [hno i ((Anc.refl).of_kid D hi)] at hbi; cases hbi)
  refine ⟨upd b' r, .step g ⟨hr, e1, e2⟩ .refl ?_, upd_self b' r⟩
  rw [H_kids hr e1 e2]
  exact own_le hr

/-! ### no order needs less -/
noncomputable def okRun (P : List Int) : (Nat → Bool) → List Nat → Prop
  | b, [] => b = whole
  | b, k :: σ => Can P b k ∧ okRun P (upd b k) σ
noncomputable def Hits (P : List Int) (rm : Nat → Int) (r : Nat) (c : Int) : (Nat → Bool) → List Nat → Prop
  | _, [] => False
  | b, k :: σ => (Anc P r k ∧ c ≤ H P b r + rm k) ∨ Hits P rm r c (upd b k) σ
theorem hits_mono {r : Nat} {c c' : Int} (hc : c' ≤ c) : ∀ (σ : List Nat) (b : Nat → Bool), Hits P rm r c b σ → Hits P rm r c' b σ
  | [], _, h => h
  | k :: σ, b, h => h.imp (fun z => ⟨z.1, by lia⟩) (hits_mono hc σ _)
theorem hits_own (D : PT P) {r : Nat} (hr : r < 6) : ∀ (σ : List Nat) (b : Nat → Bool), okRun P b σ → b r = false → Hits P rm r (((kidsP P r).length : Int) + rm r) b σ
  | [], b, ok, hb => by rw [show b = whole from ok, whole_lt hr] at hb; cases hb
  | k :: σ, b, ⟨C, ok⟩, hb => by
    by_cases q : k = r
    · subst q
      exact .inl ⟨.refl, by rw [H_kids hr hb C.kids]; exact Int.le_refl _⟩
    · exact .inr (hits_own D hr σ _ ok (by rw [upd_ne b (Ne.symm q)]; exact hb))
theorem hits_lift (D : PT P) {r i : Nat} {c : Int} {p : Nat → Bool} (hr : r < 6) (hi : i ∈ kidsP P r) (hp : p i = true) : ∀ (σ : List Nat) (b : Nat → Bool), Vd P b → okRun P b σ → (∀ x ∈ kidsP P r, p x = true → x ≠ i → 1 ≤ H P b x) → Hits P rm i c b σ → Hits P rm r (c + (((kidsP P r).filter p).length : Int) - 1) b σ
  | [], b, V, ok, ho, h => h.elim
  | k :: σ, b, V, ⟨C, ok⟩, ho, h => by
    rcases h with ⟨hA, hc⟩ | h
    · have hbr : b r = false := V.anc' D ((hA.of_kid D hi)) C.no
      refine .inl ⟨hA.of_kid D hi, ?_⟩
      have := sum_more (kids_nodup P r) hi (f := H P b) hp (fun x hx => H_nonneg x (kid6 hx)) ho
      rw [H_open hr hbr]
      lia
    · refine .inr (hits_lift D hr hi hp σ _ (V.up D C) ok (fun x hx hpx hne => ?_) h)
      have h1 := ho x hx hpx hne
      have h2 := H_nonneg (P := P) (b := upd b k) x (kid6 hx)
      have h3 : H P (upd b k) x ≠ 0 := fun z => by
        have z' := (H_zero D (V.up D C) x (kid6 hx)).mp z
        have : H P b x = 0 := (H_zero D V x (kid6 hx)).mpr fun y hy => by
          have := z' y hy
          by_cases q : y = k
          · subst q; exact C.no
          · rwa [upd_ne b q] at this
        lia
      lia
theorem lower (D : PT P) (hd : d = 1 ∨ d = -1) : ∀ r, r < 6 → ∀ (σ : List Nat) (b : Nat → Bool), Vd P b → okRun P b σ → (∀ x, Anc P r x → b x = false) → Hits P (pAt R) r (lstK P R d r) b σ := by
  refine inward (P := P) fun r hr ih σ b V ok hno => ?_
  rcases lst_cases (R := R) (P := P) hd hr with e | ⟨j, hj, e⟩
  · rw [e]; exact hits_own D hr σ b ok (hno r .refl)
  · -- those that go ahead of j, and j
    let p : Nat → Bool := fun i => decide (keyK P R d i ≤ keyK P R d j)
    have hpj : p j = true := decide_eq_true (Int.le_refl _)
    have hcnt : (((kidsP P r).filter fun i => decide (keyK P R d i < keyK P R d j)).length : Int) = (((kidsP P r).filter p).length : Int) - 1 := by
      rw [← sum_ind, ← sum_ind]
      have := sum_but (kids_nodup P r) hj (f := fun x => ind (decide (keyK P R d x < keyK P R d j))) (g := fun x => ind (p x)) (fun x hx hne => by
        have : keyK P R d x ≠ keyK P R d j := fun z => hne (key_inj hd (kid6 hx) (kid6 hj) z)
        show ind (decide _) = ind (decide _)
        congr 1
        exact decide_eq_decide.mpr (by lia))
      have e1 : ind (decide (keyK P R d j < keyK P R d j)) = 0 := by simp [ind]
      have e2 : ind (p j) = 1 := by rw [hpj]; rfl
      simp only [e1, e2] at this
      lia
    have claim : ∀ (σ : List Nat) (b : Nat → Bool), Vd P b → okRun P b σ → b r = false → (∃ i ∈ kidsP P r, p i = true ∧ H P b i = 0) → Hits P (pAt R) r (lstK P R d j + (((kidsP P r).filter p).length : Int) - 1) b σ := by
      intro σ
      induction σ with
      | nil =>
        intro b V ok hb ⟨i, hi, _, h0⟩
        rw [show b = whole from ok, whole_lt hr] at hb; cases hb
      | cons k σ ihσ =>
        intro b V ok hb ⟨i, hi, hpi, h0⟩
        by_cases hone : ∀ x ∈ kidsP P r, p x = true → x ≠ i → 1 ≤ H P b x
        · have h1 := ih i hi (k :: σ) b V ok ((H_zero D V i (kid6 hi)).mp h0)
          have h2 := key_lst (P := P) (R := R) hd (kid6 hi) (kid6 hj) (of_decide_eq_true hpi)
          exact hits_mono (by lia) _ _ (hits_lift D hr hi hpi _ _ V ok hone h1)
        · obtain ⟨i2, hi2, hp2, hne, hz⟩ : ∃ i2 ∈ kidsP P r, p i2 = true ∧ i2 ≠ i ∧ H P b i2 = 0 := by
            refine Classical.byContradiction fun hn => hone fun x hx hpx hxi => ?_
            have := H_nonneg (P := P) (b := b) x (kid6 hx)
            by_cases q : H P b x = 0
            · exact absurd ⟨x, hx, hpx, hxi, q⟩ hn
            · lia
          obtain ⟨C, ok'⟩ := ok
          have hkr : k ≠ r := by
            rintro rfl
            have := H_read (P := P) (kid6 hi) (C.kids i hi)
            lia
          refine .inr (ihσ _ (V.up D C) ok' (by rw [upd_ne b (Ne.symm hkr)]; exact hb) ?_)
          have keep : ∀ x ∈ kidsP P r, ¬ Anc P x k → H P (upd b k) x = H P b x := fun x hx hA => H_congr D x (kid6 hx) fun y hy => upd_ne b fun z => hA (z ▸ hy)
          by_cases q : Anc P i k
          · exact ⟨i2, hi2, hp2, (keep i2 hi2 fun z => hne (Anc.apart D hi2 hi z q)).trans hz⟩
          · exact ⟨i, hi, hpi, (keep i hi q).trans h0⟩
    rw [e, hcnt]
    have := claim σ b V ok (hno r .refl) ⟨j, hj, hpj, (H_zero D V j (kid6 hj)).mpr fun x hx => hno x (hx.of_kid D hj)⟩
    exact hits_mono (by lia) _ _ this
end
end Mine

namespace Mine
open PySem PySem.Calls PySem.W

section
variable {G : List Grp} {R : List Int} {d : Int}
noncomputable def Rooms (G : List Grp) (R : List Int) : Prop := ∀ k, k < 6 → pAt R k = 1 + (portOf G k : Int).fmod 4
theorem need_H (O : GT G) (hR : Rooms G R) {b : Nat → Bool} {k : Nat} (V : Vd (PG G) b) (C : Can (PG G) b k) : needF G b k = H (PG G) b 0 + pAt R k := by
  have h0 : b 0 = false := V.anc' O.tree (Anc.root O.tree C.lt) C.no
  unfold needF
  rw [held_H O.tree V h0, hR k C.lt]
  lia
noncomputable def Below (G : List Grp) (p : Int) : (Nat → Bool) → List Nat → Prop
  | _, [] => True
  | b, k :: σ => needF G b k ≤ p ∧ Below G p (upd b k) σ
theorem hits_below (O : GT G) (hR : Rooms G R) {c p : Int} : ∀ (σ : List Nat) (b : Nat → Bool), Vd (PG G) b → okRun (PG G) b σ → Below G p b σ → Hits (PG G) (pAt R) 0 c b σ → c ≤ p
  | [], _, _, _, _, h => h.elim
  | k :: σ, b, V, ⟨C, ok⟩, ⟨hb, hB⟩, h => by
    rcases h with ⟨_, h⟩ | h
    · rw [need_H O hR V C] at hb; lia
    · exact hits_below O hR σ _ (V.up O.tree C) ok hB h
theorem reach_run {b : Nat → Bool} {p : Int} (h : Reach G b p) : ∀ (σ : List Nat) (q : Int), p ≤ q → okRun (PG G) b σ → Below G q b σ → ∃ τ, okRun (PG G) (fun _ => false) τ ∧ Below G q (fun _ => false) τ := by
  induction h with
  | zero => intro σ q _ ok hB; exact ⟨σ, ok, hB⟩
  | @step b p k _ C ih =>
    intro σ q hq ok hB
    exact ih (k :: σ) q (by lia) ⟨C, ok⟩ ⟨by lia, hB⟩
theorem least_le (O : GT G) (hR : Rooms G R) (hd : d = 1 ∨ d = -1) {p : Int} (h : Reach G whole p) : lstK (PG G) R d 0 ≤ p := by
  obtain ⟨τ, ok, hB⟩ := reach_run h [] p (Int.le_refl _) rfl trivial
  exact hits_below O hR τ _ (Vd.none _) ok hB (lower O.tree hd 0 (by lia) τ _ (Vd.none _) ok fun _ _ => rfl)
theorem go_reach (O : GT G) (hR : Rooms G R) {c : Int} {b b' : Nat → Bool} (V : Vd (PG G) b) (g : Go (PG G) (pAt R) 0 c b b') {p : Int} (hp : p ≤ c) (h : Reach G b p) : ∃ q, q ≤ c ∧ Reach G b' q := by
  induction g with
  | refl => exact ⟨p, hp, h⟩
  | @step b₁ k g C hA hle ih =>
    obtain ⟨q, hq, hr⟩ := ih
    have := need_H O hR (hr.vd O) C
    exact ⟨_, by lia, .step hr C⟩
theorem least_at (O : GT G) (hR : Rooms G R) (hd : d = 1 ∨ d = -1) : Reach G whole (lstK (PG G) R d 0) := by
  obtain ⟨b', g, hb⟩ := achieve (R := R) O.tree hd 0 (by lia) _ (Vd.none (PG G)) fun _ _ => rfl
  have h0 : 0 ≤ lstK (PG G) R d 0 := by
    have h1 := own_le (P := PG G) (R := R) (d := d) (r := 0) (by lia)
    have h2 := hR 0 (by lia)
    have h3 := Int.fmod_nonneg_of_pos (portOf G 0 : Int) (show (0 : Int) < 4 by lia)
    lia
  obtain ⟨q, hq, hr⟩ := go_reach O hR (Vd.none _) g h0 .zero
  have e : b' = whole := (hr.vd O).ext (Vd.whole _) fun k hk => by rw [(hr.vd O).anc O.tree (Anc.root O.tree hk) hb, whole_lt hk]
  rw [e] at hr
  have := least_le O hR hd hr
  rw [show lstK (PG G) R d 0 = q by lia]
  exact hr

/-! ### the most -/
section
variable {P : List Int}
theorem tip_pos {k : Nat} (hk : k < 6) : 1 ≤ tipK P k := by rw [tipK_eq hk]; lia
theorem tip_sum {k j : Nat} (hk : k < 6) (hj : j ∈ kidsP P k) : tipK P k = ((kidsP P k).map (tipK P)).sum := by
  rw [tipK_eq hk]
  have h1 : ∀ l : List Nat, (∀ x ∈ l, x < 6) → j ∈ l → 1 ≤ (l.map (tipK P)).sum := by
    intro l
    induction l with
    | nil => intro _ h; cases h
    | cons x l ih =>
      intro h6 hm
      rw [List.map_cons, List.sum_cons]
      have a := tip_pos (P := P) (h6 x (List.mem_cons_self ..))
      have c := sum_nonneg (l := l) (f := tipK P) fun y hy => by have := tip_pos (P := P) (h6 y (List.mem_cons_of_mem _ hy)); lia
      lia
  have := h1 _ (fun x hx => kid6 hx) hj
  lia
theorem H_tip (D : PT P) {b : Nat → Bool} : ∀ k, k < 6 → H P b k ≤ tipK P k := by
  refine inward (P := P) fun k hk ih => ?_
  rw [H_eq hk]
  split
  · exact tip_pos hk
  · rw [tipK_eq hk]
    have := sum_le ih
    lia
theorem H_path (D : PT P) {b : Nat → Bool} (V : Vd P b) : ∀ k, k < 6 → b k = false → H P b 0 ≤ H P b k + tipK P 0 - tipK P k := by
  intro k
  induction k using Nat.strongRecOn with
  | ind k ih =>
    intro hk hb
    by_cases h0 : k = 0
    · subst h0; lia
    · have hlt := D.par_lt (by lia) hk
      have hkid := kid_of D (by lia) hk
      have hp : b (par P k) = false := by
        cases e : b (par P k) with
        | false => rfl
        | true => rw [V.down k (by lia) hk e] at hb; cases hb
      have h1 := ih _ hlt (by lia) hp
      rw [H_open (by lia) hp, tip_sum (by lia) hkid] at h1
      have := sum_but_le (kids_nodup P (par P k)) hkid (f := H P b) (g := tipK P) fun x hx _ => H_tip D x (kid6 hx)
      lia
theorem most_ge {k : Nat} (hk : k < 6) : ((kidsP P k).length : Int) + pAt R k + tipK P 0 - tipK P k ≤ mostK P R := by
  unfold mostK
  exact lmax_ge (List.mem_map.mpr ⟨k, List.mem_range.mpr hk, rfl⟩)
end
theorem need_most (O : GT G) (hR : Rooms G R) {b : Nat → Bool} {k : Nat} (V : Vd (PG G) b) (C : Can (PG G) b k) : needF G b k ≤ mostK (PG G) R := by
  rw [need_H O hR V C]
  have h1 := H_path O.tree V k C.lt C.no
  rw [H_kids C.lt C.no C.kids] at h1
  have := most_ge (P := PG G) (R := R) C.lt
  lia
theorem most_le (O : GT G) (hR : Rooms G R) {b : Nat → Bool} {p : Int} (h : Reach G b p) : p ≤ mostK (PG G) R := by
  induction h with
  | zero =>
    have h1 := most_ge (P := PG G) (R := R) (k := 0) (by lia)
    have h2 := hR 0 (by lia)
    have h3 := Int.fmod_nonneg_of_pos (portOf G 0 : Int) (show (0 : Int) < 4 by lia)
    lia
  | @step b p k h C ih => have := need_most O hR (h.vd O) C; lia
/-- any state can be read to the end -/
theorem reach_on (O : GT G) : ∀ (n : Nat) (b : Nat → Bool) (p : Int), 6 - card b = n → Reach G b p → ∃ q, p ≤ q ∧ Reach G whole q := by
  intro n
  induction n with
  | zero =>
    intro b p hn h
    have hc := card_le b
    have := whole_of (h.vd O) (show card b = 6 by lia)
    exact ⟨p, Int.le_refl _, this ▸ h⟩
  | succ n ih =>
    intro b p hn h
    have V := h.vd O
    have hex : ∃ k, k < 6 ∧ b k = false := by
      refine Classical.byContradiction fun hno => ?_
      have : card b = card whole := s6_congr fun k hk => by
        cases e : b k with
        | true => rw [whole_lt hk]
        | false => exact absurd ⟨k, hk, e⟩ hno
      rw [card_whole] at this; lia
    obtain ⟨k, hk, hb⟩ := hex
    have up : ∀ m k, k < 6 → b k = false → 6 - k ≤ m → ∃ k, Can (PG G) b k := by
      intro m
      induction m with
      | zero => intro k h1 _ h2; lia
      | succ m ihm =>
        intro k h1 h2 h3
        by_cases hall : ∀ j ∈ kidsP (PG G) k, b j = true
        · exact ⟨k, h1, h2, hall⟩
        · obtain ⟨j, hj, hbj⟩ : ∃ j ∈ kidsP (PG G) k, b j = false := by
            refine Classical.byContradiction fun hno => hall fun j hj => ?_
            cases e : b j with
            | true => rfl
            | false => exact absurd ⟨j, hj, e⟩ hno
          have := (kidsP_down (PG G)).lt k j hj
          exact ihm j this.2 hbj (by lia)
    obtain ⟨k, C⟩ := up 6 k hk hb (by lia)
    have hc := card_upd C.lt C.no
    obtain ⟨q, hq, hr⟩ := ih _ _ (by lia) (Reach.step h C)
    exact ⟨q, by lia, hr⟩

open Classical in
/-- all groups without one within are read, but k's own, of which all but itself -/
noncomputable def fullB (P : List Int) (k : Nat) : Nat → Bool := fun x => decide (x < 6) && (if Anc P k x then decide (x ≠ k) else decide (kidsP P x = []))
section
variable {P : List Int}
theorem full_in {k x : Nat} (hx : x < 6) (h : Anc P k x) (hne : x ≠ k) : fullB P k x = true := by
  unfold fullB; rw [if_pos h]; simp [hx, hne]
theorem full_self {k : Nat} : fullB P k k = false := by
  unfold fullB; rw [if_pos .refl]; simp
theorem full_off {k x : Nat} (hx : x < 6) (h : ¬ Anc P k x) : fullB P k x = decide (kidsP P x = []) := by
  unfold fullB; rw [if_neg h]; simp [hx]
theorem full_vd (D : PT P) (k : Nat) : Vd P (fullB P k) := by
  refine ⟨fun x hx => by unfold fullB; simp; lia, fun x h1 h6 hp => ?_⟩
  have hlt := D.par_lt h1 h6
  by_cases hA : Anc P k (par P x)
  · have := hA.le D
    exact full_in h6 (.up h1 h6 hA) (by lia)
  · rw [full_off (by lia) hA] at hp
    have e := of_decide_eq_true hp
    have := kid_of D h1 h6
    rw [e] at this; cases this
theorem full_can (D : PT P) {k : Nat} (hk : k < 6) : Can P (fullB P k) k := ⟨hk, full_self, fun j hj => by
  obtain ⟨h1, h2, h3⟩ := (kid_iff D).mp hj
  exact full_in h2 (Anc.refl.of_kid D hj |> fun _ => .up (by lia) h2 (h3 ▸ .refl)) (by lia)⟩
theorem full_tip (D : PT P) {k : Nat} : ∀ i, i < 6 → ¬ Anc P i k → ¬ Anc P k i → H P (fullB P k) i = tipK P i := by
  refine inward (P := P) fun i hi ih h1 h2 => ?_
  have hb := full_off hi h2
  by_cases q : kidsP P i = []
  · rw [H_read hi (by rw [hb, q]; rfl), tipK_eq hi, q]; rfl
  · have hb' : fullB P k i = false := by rw [hb]; exact decide_eq_false q
    rw [H_open hi hb']
    obtain ⟨j, hj⟩ := List.exists_mem_of_ne_nil _ q
    rw [tip_sum hi hj]
    congr 1
    refine List.map_congr_left fun x hx => ih x hx (fun z => h1 (z.of_kid D hx)) fun z => ?_
    rcases z.inv with rfl | ⟨_, _, z⟩
    · exact h1 (Anc.refl.of_kid D hx)
    · rw [((kid_iff D).mp hx).2.2] at z; exact h2 z
theorem full_path (D : PT P) {k : Nat} (hk : k < 6) : ∀ a, Anc P a k → H P (fullB P k) 0 = H P (fullB P k) a + tipK P 0 - tipK P a := by
  intro a
  induction a using Nat.strongRecOn with
  | ind a ih =>
    intro hA
    by_cases h0 : a = 0
    · subst h0; lia
    · have ha6 : a < 6 := by have := hA.le D; lia
      have hlt := D.par_lt (k := a) (by lia) ha6
      have hkid := kid_of D (k := a) (by lia) ha6
      have hAp := hA.kid D (by lia) ha6
      have h1 := ih _ hlt hAp
      have hak := hA.le D
      have hb : fullB P k (par P a) = false := by
        rw [full_off (by lia) fun z => by have := z.le D; lia]
        exact decide_eq_false fun z => by rw [z] at hkid; cases hkid
      rw [H_open (by lia) hb, tip_sum (by lia) hkid] at h1
      have := sum_but (kids_nodup P (par P a)) hkid (f := H P (fullB P k)) (g := tipK P) fun x hx hne => full_tip D x (kid6 hx) (fun z => hne (Anc.apart D hx hkid z hA)) fun z => by
        rcases z.inv with rfl | ⟨_, _, z⟩
        · exact hne (Anc.apart D hx hkid .refl hA)
        · rw [((kid_iff D).mp hx).2.2] at z
          have := z.le D; lia
      lia
end
theorem most_at (O : GT G) (hR : Rooms G R) : Reach G whole (mostK (PG G) R) := by
  have hm : mostK (PG G) R ∈ (List.range 6).map fun k => ((kidsP (PG G) k).length : Int) + pAt R k + tipK (PG G) 0 - tipK (PG G) k := lmax_mem (by simp)
  obtain ⟨k, hk, e⟩ := List.mem_map.mp hm
  have hk6 := List.mem_range.mp hk
  have V := full_vd O.tree k
  have C := full_can O.tree hk6
  have hc := card_le (fullB (PG G) k)
  obtain ⟨p, hp⟩ := reach_any O (card (fullB (PG G) k)).toNat _ V (by lia)
  have hn := need_H O hR V C
  have h1 := full_path O.tree hk6 k .refl
  rw [H_kids hk6 full_self C.kids] at h1
  have hr := Reach.step hp C
  have hc2 := card_le (upd (fullB (PG G) k) k)
  obtain ⟨q, hq, hr2⟩ := reach_on O (6 - card (upd (fullB (PG G) k) k)).toNat _ _ (by lia) hr
  have h2 := most_le O hR hr2
  rw [show mostK (PG G) R = q by lia]
  exact hr2

/-! ### what the law asks of the table -/
theorem hooks_eq {P : List Int} : WP P whole = hooksL P (done 6) := by
  have e : done 6 = [5, 4, 3, 2, 1, 0] := by decide
  rw [e]
  unfold WP p6 hooksL
  simp only [whole_lt (show 0 < 6 by lia), whole_lt (show 1 < 6 by lia), whole_lt (show 2 < 6 by lia), whole_lt (show 3 < 6 by lia), whole_lt (show 4 < 6 by lia), whole_lt (show 5 < 6 by lia), if_true, List.foldl_cons, List.foldl_nil]
  simp only [Int.mul_comm, Int.mul_left_comm, Int.mul_assoc, Int.one_mul, Int.mul_one]
theorem lmin_spec : ∀ {l : List Int}, l ≠ [] → lmin l ∈ l ∧ ∀ x ∈ l, lmin l ≤ x := by
  have go : ∀ (xs : List Int) (x : Int), xs.foldl min x ≤ x ∧ (∀ y ∈ xs, xs.foldl min x ≤ y) ∧ (xs.foldl min x = x ∨ xs.foldl min x ∈ xs) := by
    intro xs
    induction xs with
    | nil => intro x; simp
    | cons y ys ih =>
      intro x
      obtain ⟨h1, h2, h3⟩ := ih (min x y)
      simp only [List.foldl_cons]
      refine ⟨by lia, fun z hz => ?_, ?_⟩
      · rcases List.mem_cons.mp hz with rfl | hz
        · lia
        · exact h2 z hz
      · rcases h3 with h3 | h3
        · rw [h3]
          by_cases q : x ≤ y
          · left; lia
          · right; rw [show min x y = y by lia]; exact List.mem_cons_self ..
        · right; exact List.mem_cons_of_mem _ h3
  intro l h
  cases l with
  | nil => exact absurd rfl h
  | cons x xs =>
    obtain ⟨h1, h2, h3⟩ := go xs x
    refine ⟨?_, fun y hy => ?_⟩
    · show xs.foldl min x ∈ _
      rcases h3 with h3 | h3
      · rw [h3]; exact List.mem_cons_self ..
      · exact List.mem_cons_of_mem _ h3
    · rcases List.mem_cons.mp hy with rfl | hy
      · exact h1
      · exact h2 y hy
theorem sumFrom_eq (l : List Int) : sumFrom 0 l = l.sum := by
  have go : ∀ (l : List Int) (z : Int), sumFrom z l = z + l.sum := by
    intro l
    induction l with
    | nil => intro z; simp [sumFrom]
    | cons x l ih =>
      intro z
      show sumFrom (z + x) l = _
      rw [ih, List.sum_cons]; lia
  rw [go]; lia
/-- the plain law -/
theorem plain_law (O : GT G) (hR : Rooms G R) (hd : d = 1 ∨ d = -1) : ∃ t, rowsN (portOf G) (rdF G) (S (textL G 6 0)) 6 = [(S [97], t)] ∧ NK t ∧ t ≠ [] ∧ t.length ≤ 11 ∧
    lmin (keys t) = lstK (PG G) R d 0 ∧ lmax (keys t) = mostK (PG G) R ∧ sumFrom 0 (t.map (·.2)) * hooksL (PG G) (done 6) = 720 := by
  obtain ⟨t, h1, h2, h3, h4⟩ := rows_six O
  have hl := (h3 _).mpr (least_at O hR hd)
  have hm := (h3 _).mpr (most_at O hR)
  have hne : keys t ≠ [] := fun z => by rw [z] at hl; cases hl
  refine ⟨t, by rw [text_T O]; exact h1, h2, fun z => (by rw [z] at hl; cases hl), few_keys h2 fun p hp => ((h3 p).mp hp).bound, ?_, ?_, ?_⟩
  · obtain ⟨a, c⟩ := lmin_spec hne
    have h5 := least_le O hR hd ((h3 _).mp a)
    have h6 := c _ hl
    lia
  · have h5 := most_le O hR ((h3 _).mp (lmax_mem hne))
    have h6 := lmax_ge hm
    lia
  · rw [sumFrom_eq, ← hooks_eq]; exact h4
end
end Mine

namespace Mine
open PySem PySem.Calls PySem.W
open PyProof.Rows (IntsAre pickNums)

section
variable {prog : Program} {w : World} {K : PM} {gl : List (Str × Value)} {env : Env} {r : Nat} {ρ : Ctx}
theorem itemsOfInts {X : XS} {h : Heap} : ∀ {ns : List Int} {vs : List Value}, IntsAre vs ns → All2 (fun (P : HV) v => P.p X h v) (ns.map TInt) vs
  | _, _, .nil => trivial
  | _, _, .cons n t h => ⟨⟨t, rfl⟩, itemsOfInts h⟩
/-- a list of ints, cut -/
theorem vl_cutL {X : XS} {hh : Heap} {va vi : Value} {ns : List Int} {lo up sp : Option Int} (pa : LSeqP "list" (ns.map TInt) X hh va) (pi : (TCut lo up sp).p X hh vi) (h0 : sp ≠ some 0) (hsz : ns.length ≤ 1000) :
    Vl prog w K r X hh (getItem va vi) (fun v h' => (TList ((pickNums ns lo up sp).map TInt)).w.p X h' v) := by
  obtain ⟨sl, lv, uv, sv, rfl, hS, p1, p2, p3⟩ := pi
  intro A s Q E R e kK hX c
  subst e
  obtain ⟨a, vs, rfl, hl, _, hall⟩ := LSeqP.isList pa
  have hI := intsAreOf hall
  have hlen : vs.size = ns.length := by have := hall.length; rw [List.length_map] at this; rw [this]; simp
  have hp := hI.pick lo up sp
  have e : vs.toList.toArray = vs := by simp
  rw [e] at hp
  generalize hpk : slicePick vs lo up sp = pk at hp
  refine wpAny_getItem_list_slice hl hS p1 p2 p3 h0 ?_ (by rw [sizeLine_eq]; lia)
  rw [hpk]
  refine c _ _ s.toks (fun b o q => Heap.get?_push_of_some _ q) ?_
  have := seq_new (X := X) (h := s.heap) (cls := "list") (Ps := (pickNums ns lo up sp).map TInt) (vs := pk.toList) hX (All2.map_left.mpr (itemsOfInts hp))
  have e2 : pk.toList.toArray = pk := by simp
  rw [e2] at this
  exact this
theorem ev_cutL {a : Expr} {l u st : Option Expr} {p pos : Pos} {ns : List Int} {lo up sp : Option Int} (ha : Ev prog w K env r ρ a (LSeq "list" (ns.map TInt))) (hl : EvO prog w K env r ρ l lo) (hu : EvO prog w K env r ρ u up) (hst : EvO prog w K env r ρ st sp) (h0 : sp ≠ some 0) (hsz : ns.length ≤ 1000)
    (hs : ∀ va vi, ∃ ops, subscripted (.Slice l u st p) false va vi = operate ops (getItem va vi) := by intro a b; exact ⟨_, rfl⟩) :
    Ev prog w K env r ρ (.Subscript a (.Slice l u st p) pos) (TList ((pickNums ns lo up sp).map TInt)) :=
  ev_subscr (T := "list") ha (ev_cut hl hu hst) (fun X s v p => by obtain ⟨a, vs, rfl, hl, _⟩ := LSeqP.isList p; exact hl.typeIs) slot_list_getitem.lookup (fun X hh va vi pa pi => vl_cutL pa pi h0 hsz) hs
/-- two tables that differ in size -/
theorem tst_eqD {κ : Type} [DecidableEq κ] {knd : KeyKind prog w κ} {a b : Expr} {pos : Pos} {ka kb : List (κ × HV)} (ha : Ev prog w K env r ρ a (LDict knd ka)) (hb : Ev prog w K env r ρ b (LDict knd kb)) (hne : ka.length ≠ kb.length)
    (hm : behindInMarks .Eq b = false := by with_unfolding_all rfl) : Tst prog w K env r ρ (.Compare a [.Eq] [b] pos) false := by
  refine tst_cmp ha hb ?_ hm
  rintro X hh va vb ⟨a, us, rfl, hsa, da, ia⟩ ⟨b, us', rfl, hsb, db, ib⟩ A s Q E R e kK hX c
  subst e
  have l1 := ia.length
  have l2 := ib.length
  refine keq_eq (r := false) hsa hsb da db (by have := R.un; lia) (fun z => absurd (l1.trans (z.trans l2.symm)) hne) (c _ s.heap s.toks (fun _ _ q => q) ?_)
  simp
end

section
variable {w : World} {K : PM} {r : Nat} {env : Env} {ρ : Ctx} {Z : List Addr} {Φ : Around → Heap → Prop}
theorem evg_get2 {κ : Type} [DecidableEq κ] {knd : KeyKind PW w κ} {o a b : Expr} {apos pos : Pos} {kvs : List (κ × HV)} {Pk Pd P : WV} {k : κ} (ho : EvG PW w K Z Φ env r ρ o (LDict knd kvs)) (ha : Ev PW w K env r ρ a Pk) (hb : Ev PW w K env r ρ b Pd) (hk : IsKey knd Pk k)
    (hP : ∀ (X : XS) h v, (∀ p, dget kvs k = some p → p.p X h v → P.p X h v) ∧ (dget kvs k = none → Pd.p X h v → P.p X h v))
    (hst : starEach [a, b] env = [(false, eval a env), (false, eval b env)] := by rfl) (hst2 : starEach [b] env = [(false, eval b env)] := by rfl)
    (hbase : attributeBase o "get" env (eval o env) = eval o env := by rfl) (hline : (apos.endLine == pos.line) = true := by rfl) :
    EvG PW w K Z Φ env r ρ (.Call (.Attribute o "get" apos) [a, b] [] pos) P := by
  refine evg_meth F.plainAttrs_dict F.slot_dict_get F.type_dict_get ho dictShape (evl_cons ha (evl_cons hb evl_nil hst2) (by rw [hst, hst2])) ?_ hbase (by rw [hst]; rfl) hline
  rintro X hh ov vs po pv
  obtain ⟨key, dflt, rfl, pk, pd⟩ := vs2 pv
  intro A s Q E R e kK hX c
  subst e
  obtain ⟨d, us, rfl, hsys, hd, hi⟩ := po
  refine call_meetsIn F.slot_dict_get hd.typeIs F.entry_dict_get (F.args_dict_get_3 _ _ _) (meets_dict_get_default knd d (hk _ _ _ pk) hsys dflt) ⟨_, hd.mapOf, ?_⟩
  cases hg : dget kvs k with
  | none =>
    have := (rel_get (R := fun (P : HV) v => P.p X s.heap v) hi k).2 hg
    rw [valueAt_dget, this]
    exact c _ s.heap _ (fun _ _ q => q) ((hP X s.heap dflt).2 hg pd)
  | some p =>
    obtain ⟨v, hv, hp⟩ := (rel_get (R := fun (P : HV) v => P.p X s.heap v) hi k).1 p hg
    rw [valueAt_dget, hv]
    exact c _ s.heap _ (fun _ _ q => q) ((hP X s.heap v).1 p hg hp)
theorem ev_min {e : Expr} {p pos : Pos} {ns : List Int} {M : Int} (kf : KF K GL) (he : Ev PW w K env r ρ e (LSeq "list" (ns.map TInt))) (h1 : M ∈ ns) (h2 : ∀ a ∈ ns, M ≤ a) (hst : starEach [e] env = [(false, eval e env)] := by rfl)
    (hgl : env.globals = mainGlobals := by rfl) (hbl : env.builtins = builtinsNs := by rfl) (hk : env.scope.kind = .function := by rfl) (hx : env.kindOf "min" = some .globalImplicit := by rfl) : Ev PW w K env r ρ (.Call (.Name "min" p) [e] [] pos) (TInt M) := by
  refine cb1 (fv := .builtin "min") (Pa := LSeq "list" (ns.map TInt)) kf ?_ ?_ he ?_ hst hgl hbl hk hx
  · first | rfl | decide +kernel
  · intro a h; cases h
  · exact fun X hh v p => vl_min p h1 h2
/-- a comparison whose left side touches the tables -/
theorem evt_eqd {a b : Expr} {pos : Pos} {Pa Pb : WV} {da db : PyData} (ha : EvT w K env r ρ a Pa) (hb : Ev PW w K env r ρ b Pb) (ra : Rd Pa da) (rb : Rd Pb db) (ca : da.canLay0 = true) (cb : db.canLay0 = true) (hd : da.depth ≤ 10 * r)
    (hm : behindInMarks .Eq b = false := by with_unfolding_all rfl) : EvT w K env r ρ (.Compare a [.Eq] [b] pos) (TBool (PyData.eqv da db)) := by
  intro A s B X₀ W Q E R I hT T c
  refine wpAny_Compare1 (ha A s B X₀ W _ E R I hT T fun va h₁ t₁ I₁ T₁ pa => ?_) hm
  refine hb A _ _ _ E R I₁.subK I₁.sat fun vb h₂ t₂ k₂ pb => ?_
  have I₂ := I₁.keeps k₂
  have T₂ := T₁.keeps k₂
  obtain ⟨as, r1⟩ := ra _ _ _ (Pa.mono k₂ pa)
  obtain ⟨bs, r2⟩ := rb _ _ _ pb
  exact SeqAt.rcAt_reads r1 r2 ca cb (by have := R.un; have : min da.depth db.depth ≤ da.depth := Nat.min_le_left _ _; lia) PW w E Q (c _ h₂ t₂ I₂ T₂ rfl)
end
end Mine

namespace Mine
open PySem PySem.Calls PySem.W
open PyProof.Rows (pickNums)

/-! ### what the law builds from its script -/
noncomputable def nums (n : Int) : Nat → Int
  | 0 => n
  | i + 1 => (nums n i).fdiv ((i : Int) + 2)
noncomputable def parR (n : Int) (i : Nat) : Int := (nums n i).fmod ((i : Int) + 2)
noncomputable def parL (n : Int) (i : Nat) : List Int := [-1, 0] ++ (List.range i).map (parR n)
theorem nums_small {n : Int} (h : n.natAbs ≤ 1000) : ∀ i, (nums n i).natAbs ≤ 1000
  | 0 => h
  | i + 1 => by
    have ih := nums_small h i
    show ((nums n i).fdiv ((i : Int) + 2)).natAbs ≤ 1000
    generalize nums n i = m at *
    have h1 := Int.mul_fdiv_add_fmod m ((i : Int) + 2)
    have h2 := Int.fmod_nonneg_of_pos m (show (0 : Int) < (i : Int) + 2 by omega)
    have h3 := Int.fmod_lt_of_pos m (show (0 : Int) < (i : Int) + 2 by omega)
    generalize m.fdiv ((i : Int) + 2) = q at *
    generalize m.fmod ((i : Int) + 2) = t at *
    rcases Int.le_total 0 q with hq | hq
    · have : (2 : Int) * q ≤ ((i : Int) + 2) * q := Int.mul_le_mul_of_nonneg_right (by omega) hq
      omega
    · have : ((i : Int) + 2) * q ≤ 1 * q := Int.mul_le_mul_of_nonpos_right (by omega) hq
      have : ((i : Int) + 2) * (q + 1) = ((i : Int) + 2) * q + ((i : Int) + 2) := by rw [Int.mul_add, Int.mul_one]
      rcases Int.lt_or_le (q + 1) 0 with z | z
      · have : ((i : Int) + 2) * (q + 1) ≤ 2 * (q + 1) := Int.mul_le_mul_of_nonpos_right (by omega) (by omega)
        omega
      · omega
noncomputable def startN (ns : List Int) : Int := (1056 + ns.sum).fmod 2001 - 1000
theorem start_small (ns : List Int) : (startN ns).natAbs ≤ 1000 := by
  unfold startN
  have h2 := Int.fmod_nonneg_of_pos (1056 + ns.sum) (show (0 : Int) < 2001 by omega)
  have h3 := Int.fmod_lt_of_pos (1056 + ns.sum) (show (0 : Int) < 2001 by omega)
  omega
noncomputable def dirN (n : Int) : Int := if n.fmod 2 = 0 then 1 else -1
theorem dir_or (n : Int) : dirN n = 1 ∨ dirN n = -1 := by unfold dirN; split <;> simp
noncomputable def firstsL : List Int := [17, 245, 100, 69, 382, 3]
noncomputable def cellN (ns : List Int) (k : Nat) : Nat := ((firstsL.getD k 0 + (pickNums ns (some (k : Int)) none (some 6)).sum).fmod 1000000).toNat
theorem cell_eq (ns : List Int) (k : Nat) : (firstsL.getD k 0 + (pickNums ns (some (k : Int)) none (some 6)).sum).fmod 1000000 = (cellN ns k : Int) := by
  unfold cellN
  have h2 := Int.fmod_nonneg_of_pos (firstsL.getD k 0 + (pickNums ns (some (k : Int)) none (some 6)).sum) (show (0 : Int) < 1000000 by omega)
  omega
theorem cell_lt (ns : List Int) (k : Nat) : cellN ns k < 1000000 := by
  unfold cellN
  have h3 := Int.fmod_lt_of_pos (firstsL.getD k 0 + (pickNums ns (some (k : Int)) none (some 6)).sum) (show (0 : Int) < 1000000 by omega)
  omega
noncomputable def marksL : List Nat := [124, 33, 47]
noncomputable def notesL : List (List Nat) := [[], [34, 40, 34], [34, 40, 40, 34]]
noncomputable def grpN (P : List Int) (c : Nat → Nat) (k : Nat) : Grp :=
  { par := pAt P k, head := [40, marksL.getD (c k / 60 % 3) 0, 97 + k], note := notesL.getD (c k / 180 % 3) [], mark := marksL.getD (c k / 60 % 3) 0, port := c k % 60 }
noncomputable def grpL (P : List Int) (c : Nat → Nat) (i : Nat) : List Grp := (List.range i).map (grpN P c)
theorem parL_at (n : Int) {i k : Nat} (h : k < i) : pAt (parL n i) (k + 2) = parR n k := by
  unfold pAt parL
  rw [List.getElem?_append_right (by simp)]
  simp [h]
theorem parL_len (n : Int) (i : Nat) : (parL n i).length = i + 2 := by simp [parL]
theorem pt_parL (n : Int) : PT (parL n 4) := by
  refine ⟨by rw [parL_len], rfl, fun k h1 h6 => ?_⟩
  by_cases q : k = 1
  · subst q; show 0 ≤ (0 : Int) ∧ (0 : Int) < 1; omega
  · obtain ⟨j, rfl⟩ : ∃ j, k = j + 2 := ⟨k - 2, by omega⟩
    rw [parL_at n (by omega)]
    unfold parR
    have h2 := Int.fmod_nonneg_of_pos (nums n j) (show (0 : Int) < (j : Int) + 2 by omega)
    have h3 := Int.fmod_lt_of_pos (nums n j) (show (0 : Int) < (j : Int) + 2 by omega)
    omega
theorem pg_grpL {P : List Int} {c : Nat → Nat} (h : P.length = 6) : PG (grpL P c 6) = P := by
  unfold PG grpL
  rw [List.map_map]
  apply List.ext_getElem?
  intro i
  by_cases q : i < 6
  · rw [List.getElem?_map, List.getElem?_range q]
    show some (pAt P i) = P[i]?
    unfold pAt
    rw [List.getElem?_eq_getElem (by omega)]; rfl
  · rw [List.getElem?_eq_none (by simp; omega), List.getElem?_eq_none (by omega)]
theorem grpL_at {P : List Int} {c : Nat → Nat} {k : Nat} (hk : k < 6) : (grpL P c 6)[k]? = some (grpN P c k) := by
  unfold grpL
  rw [List.getElem?_map, List.getElem?_range hk]; rfl
theorem gt_grpL {n : Int} {c : Nat → Nat} : GT (grpL (parL n 4) c 6) := by
  refine ⟨by simp [grpL], ?_, fun k g h => ?_⟩
  · rw [pg_grpL (parL_len n 4)]; exact pt_parL n
  · have hk : k < 6 := by have := (List.getElem?_eq_some_iff.mp h).1; simpa [grpL] using this
    rw [grpL_at hk] at h
    cases h
    refine ⟨rfl, ?_, ?_, Nat.mod_lt _ (by decide)⟩
    · have : ∀ j, j < 3 → (marksL.getD j 0 = 124 ∨ marksL.getD j 0 = 33 ∨ marksL.getD j 0 = 47) := by decide
      exact this _ (Nat.mod_lt _ (by decide))
    · have : ∀ j, j < 3 → (notesL.getD j [] = [] ∨ notesL.getD j [] = [34, 40, 34] ∨ notesL.getD j [] = [34, 40, 40, 34]) := by decide
      exact this _ (Nat.mod_lt _ (by decide))

/-! ### contracts -/
section
variable {w : World} {K : PM} {r : Nat} {KK : Frag} {C fC : Addr}
theorem fn_bounds {P R : List Int} {d : Int} (kf : KF K GL) (FB : FnAt K 25 194) (hKK : ∀ h, Sub K h → KK.In h) (OK : ClsOk KK C fC) (FC : FnQ K cmpStm "TupleComp.compare" fC) (hP : P.length = 6) (hR : R.length = 6) :
    Fn PW w K 194 (r + 2) [(TList (P.map TInt)).w, (TList (R.map TInt)).w, (TOrd C [(TInt 0, TInt (-1)), (TInt 1, TInt d)]).w] (TTup [TInt (lstK P R d 0), TInt (mostK P R), TInt (hooksL P (done 6))]).w := by
  obtain ⟨o, pm, cd, doc, ho, hd, hc⟩ := FB.at_
  exact fn_of_body (ps := [("parents", TList (P.map TInt)), ("rooms", TList (R.map TInt)), ("order", TOrd C [(TInt 0, TInt (-1)), (TInt 1, TInt d)])]) (P := TTup [TInt (lstK P R d 0), TInt (mostK P R), TInt (hooksL P (done 6))]) kf ho hd hc rfl rfl
    (fun vs hv => by obtain ⟨a, b, c, rfl⟩ := ln3 hv; rfl) (fun L => canP ⟨canCell, canCell, canCell, trivial⟩)
    (fun L => x_bounds kf hKK OK (fun p q => fn_cmp kf FC hKK OK) hP hR)
theorem fnz_readings {G : List Grp} {text : Str} {rd : Str → Nat → Option Str} (F : RFacts w K G) (FR : FnAt K 24 189) (ok : ∀ s : Nat, s < 6 → WalkOk G rd (s : Int) (rowsN (portOf G) rd text s)) :
    FnZ PW w K 189 (r + 2) [(TStr text).w, (GS G).w] (TDict (strKind PW w) (rvs w (rowsN (portOf G) rd text 6))).w := by
  obtain ⟨o, pm, cd, doc, ho, hd, hc⟩ := FR.at_
  exact fnz_of_body (r := r + 1) (ps := [("text", TStr text), ("groups", GS G)]) (P := TDict (strKind PW w) (rvs w (rowsN (portOf G) rd text 6))) F.kf ho hd hc rfl rfl
    (fun vs hv => by obtain ⟨a, b, rfl⟩ := ln2 hv; rfl) (fun L => canP ⟨canLocal, canLocal, trivial⟩)
    (fun L outer Z => x_readings F ok)
end
end Mine

namespace Mine
open PySem PySem.Calls PySem.W
open PyProof.Rows (pickNums)

structure LawF (K : PM) (KK : Frag) (fI fC : Addr) : Prop where
  kf : KF K GL
  parse : FnAt K 17 159
  raised : FnAt K 23 184
  add : FnAt K 3 66
  err : ∀ h, Sub K h → ErrAt h 150
  text : FnAt K 22 177
  rdg : FnAt K 24 189
  bnd : FnAt K 25 194
  cnt : FnAt K 4 73
  div : DivAt K
  pd : PdAt K
  pat : PatK K 164
  kk : ∀ h, Sub K h → KK.In h
  cls : ClsOk KK 55 fC
  new : NewOk KK 55 fI
  ini : FnQ K initStm "TupleComp.__init__" fI
  cmp : FnQ K cmpStm "TupleComp.compare" fC
  spc : specialIn KK (.ref 55) "__call__" = some (some (.builtin "type.__call__"))
  cob : ∃ o cd, K 55 = some o ∧ o.data = .cls cd

section
variable {w : World} {K : PM} {KK : Frag} {fI fC : Addr} {pm cd doc : Value} {L a : Addr} {r : Nat} {φ : Around → Prop}
noncomputable abbrev TO (n : Int) : HV := TOrd 55 [(TInt 0, TInt (-1)), (TInt 1, TInt (dirN n))]
noncomputable abbrev lc0 (ns : List Int) (n : Int) (i : Nat) : Ctx := [("parents", .ownS "list" ((parL n i).map TInt)), ("number", .imm (TInt (nums n i))), ("order", .imm (TO n)), ("script", .imm (TList (ns.map TInt)))]
noncomputable def lawBody : List Stmt := bodyOf (stm 26)
noncomputable def forBody : Stmt → List Stmt
  | .For _ _ b _ _ => b
  | _ => []

theorem l_order {ρ : Ctx} (F : LawF K KK fI fC) (n : Int) (hn : List.lookup ("number" : Str) ρ = some (Ent.imm (TInt n))) {p1 p2 p3 p4 p5 p6 p7 p8 p9 p10 p11 p12 p13 p14 p15 p16 p17 pos : Pos} {k1 k2 k3 k4 k5 k6 k7 k8 k9 : Nat} :
    Ev PW w K (envAt 26 pm cd doc L a) (r + 3) ρ (.Call (.Name "TupleComp" p1) [.List [.Tuple [.Constant (.int 0) k1 p2, .UnaryOp .USub (.Constant (.int 1) k2 p3) p4] k3 p5, .Tuple [.Constant (.int 1) k4 p6, .IfExp (.Compare (.BinOp (.Name "number" p7) .Mod (.Constant (.int 2) k5 p8) p9) [.Eq] [.Constant (.int 0) k6 p10] p11) (.Constant (.int 1) k7 p12) (.UnaryOp .USub (.Constant (.int 1) k8 p13) p14) p15] k9 p16] p17] [] pos) (TO n) := by
  obtain ⟨o, cdd, hC, hd⟩ := F.cob
  refine ev_new (C := 55) (Ps := [(TInt 0, TInt (-1)), (TInt 1, TInt (dirN n))]) F.kf F.kk F.new F.ini F.spc hC hd rfl ?_
  refine ev_list (Ps := [TTup [TInt 0, TInt (-1)], TTup [TInt 1, TInt (dirN n)]]) (evl_cons (P := (TTup [TInt 0, TInt (-1)]).w) (ev_tuple (Ps := [TInt 0, TInt (-1)]) (evl_cons (P := (TInt 0).w) ev_int (evl_cons (P := (TInt (-1)).w) (ev_neg ev_int) evl_nil)) (by rw [sizeLine_eq]; simp))
    (evl_cons (P := (TTup [TInt 1, TInt (dirN n)]).w) (ev_tuple (Ps := [TInt 1, TInt (dirN n)]) (evl_cons (P := (TInt 1).w) ev_int (evl_cons (P := (TInt (dirN n)).w) ?_ evl_nil)) (by rw [sizeLine_eq]; simp)) evl_nil)) (by rw [sizeLine_eq]; simp)
  refine ev_ifexp (c := decide (n.fmod 2 = 0)) (tst_eq (ev_mod (ev_v (hx := hn)) ev_int (by decide)) ev_int) (fun h => ?_) (fun h => ?_)
  · exact ev_castI ev_int (by unfold dirN; rw [if_pos (of_decide_eq_true h)])
  · exact ev_castI (ev_neg ev_int) (by unfold dirN; rw [if_neg (of_decide_eq_false h)])

theorem parL_snoc (n : Int) (i : Nat) : parL n (i + 1) = parL n i ++ [parR n i] := by unfold parL; rw [List.range_succ]; simp
/-- one turn of the loop that deals out the tree -/
theorem l_turn {ns : List Int} {n : Int} (F : LawF K KK fI fC) (hn : n.natAbs ≤ 1000) {i : Nat} (hi : i < 4) :
    ExT w K φ (envAt 26 pm cd doc L a) (r + 46) (("k", .imm (TInt ((i : Int) + 2))) :: lc0 ns n i) (forBody (lawBody.getD 3 (.Pass default))) (.next (lc0 ns n (i + 1))) := by
  obtain ⟨o, pm', cd', doc', ho, hd, hc⟩ := F.div.i12.at_
  have hs := nums_small hn i
  have hcall : FnT w K 115 (r + 46) [(TInt (nums n i)).w, (TInt ((i : Int) + 2)).w] (TTup [TInt (nums n (i + 1)), TInt (parR n i)]).w := by
    have := fnt_idm (w := w) (r := r) (a := nums n i) (b := i + 2) F.kf F.div (by lia) (by lia) (by lia)
    exact this
  refine ext_cons (exst_assign (P := TTup [TInt (nums n (i + 1)), TInt (parR n i)]) canLocal (evt_fn F.kf rfl rfl rfl ho hd (evl_cons (P := (TInt (nums n i)).w) ev_v (evl_cons (P := (TInt ((i : Int) + 2)).w) ev_v evl_nil)) hcall)) ?_
  have hd0 : (PyData.tuple [.int (nums n (i + 1)), .int (parR n i)]).canLay0 = true := by simp [PyData.canLay0, PyData.canLayAll0]
  have rdt : Rd (TTup [TInt (nums n (i + 1)), TInt (parR n i)]).w (.tuple [.int (nums n (i + 1)), .int (parR n i)]) := rd_pair (p := (nums n (i + 1), parR n i))
  refine ext_cons (exst_if (c := false) (tst_cast (tst_ned (Pa := (TTup [TInt (nums n (i + 1)), TInt (parR n i)]).w) (Pb := (TTup [TInt (nums n (i + 1)), TInt (parR n i)]).w) ev_v
    (ev_tuple (Ps := [TInt (nums n (i + 1)), TInt (parR n i)]) (evl_cons (P := (TInt (nums n (i + 1))).w) (ev_fdiv ev_v ev_v (by lia) ?_) (evl_cons (P := (TInt (parR n i)).w) (ev_mod ev_v ev_v (by lia)) evl_nil)) (by rw [sizeLine_eq]; simp)) rdt rdt hd0 hd0 ?_) ?_) (fun h => by cases h) (fun _ => ext_nil)) ?_
  · exact PyProof.noPylong_small (by lia)
  · simp [PyData.depth, PyData.depthAll]; lia
  · rw [PySem.SeqAt.eqv_refl _ hd0]; rfl
  refine ext_cons (exst_of (exs_assign (P := TInt (nums n (i + 1))) canLocal (ev_item_tup (k := 0) (Ps := [TInt (nums n (i + 1)), TInt (parR n i)]) (lOf ev_v) ev_int (by lia) rfl (by lia)))) ?_
  refine ext_cons (exst_of (exs_append (P := TInt (parR n i)) rfl rfl (ev_item_tup (k := 1) (Ps := [TInt (nums n (i + 1)), TInt (parR n i)]) (lOf ev_v) ev_int (by lia) rfl (by lia)) ?_)) ?_
  · rw [List.length_map, parL_len, sizeLine_eq]; lia
  refine ext_less ext_nil (less ⟨?_, rfl, rfl, rfl, trivial⟩)
  rw [parL_snoc]; simp
end
end Mine

namespace Mine
open PySem PySem.Calls PySem.W
open PyProof.Rows (pickNums)

section
variable {w : World} {K : PM} {KK : Frag} {fI fC : Addr} {pm cd doc : Value} {L a : Addr} {r : Nat} {φ : Around → Prop}
noncomputable abbrev lc1 (ns : List Int) (n : Int) (i : Nat) : Ctx := [("groups", .ownS "list" ((grpL (parL n 4) (cellN ns) i).map GV)), ("firsts", .imm (TList (firstsL.map TInt))), ("parents", .imm (TList ((parL n 4).map TInt))), ("order", .imm (TO n)), ("script", .imm (TList (ns.map TInt)))]
theorem marks_at : ∀ j, j < 3 → chAt "|!/" j = S [marksL.getD j 0] := by decide +kernel
theorem notes_at : ∀ j, j < 3 → [Str.ofString "", Str.ofString "\"(\"", Str.ofString "\"((\""][j]? = some (S (notesL.getD j [])) := by decide +kernel
theorem letter_at : ∀ k, k < 6 → letter k = S [97 + k] := by decide +kernel
theorem l_group {ns : List Int} {n : Int} (F : LawF K KK fI fC) (hns : ns.length ≤ 63) {k : Nat} (hk : k < 6) :
    Ex PW w K (envAt 26 pm cd doc L a) r (("k", .imm (TInt (k : Int))) :: lc1 ns n k) (forBody (lawBody.getD 6 (.Pass default))) (.next (lc1 ns n (k + 1))) := by
  have kf := F.kf
  have hf : firstsL[k]? = some (firstsL.getD k 0) := by
    rw [List.getD, List.getElem?_eq_getElem (show k < firstsL.length from hk)]; rfl
  have hc := cell_lt ns k
  have hP : (parL n 4)[k]? = some (pAt (parL n 4) k) := by
    unfold pAt; rw [List.getElem?_eq_getElem (by rw [parL_len]; lia)]; rfl
  refine ex_cons (exs_assign (P := TInt (cellN ns k : Int)) canLocal (ev_castI (ev_mod (ev_add (ev_item_list (P := TInt (firstsL.getD k 0)) (k := (k : Int)) (lOf ev_v) ev_v (by lia) ?_ (by lia))
    (ev_sum kf (lOf (ev_cutL (lo := some (k : Int)) (up := none) (sp := some 6) (lOf ev_v) ev_v trivial ev_int (by simp) (by lia))))) (ev_castI (ev_pow ev_int ev_int (by lia) (by decide +kernel)) (show (10 : Int) ^ (6 : Int).toNat = 1000000 by decide)) (by decide)) (cell_eq ns k))) ?_
  · rw [List.getElem?_map, Int.toNat_natCast, hf]; rfl
  have d60 : ((cellN ns k : Int).fdiv 60).fmod 3 = ((cellN ns k / 60 % 3 : Nat) : Int) := by
    rw [show (60 : Int) = ((60 : Nat) : Int) from rfl, show (3 : Int) = ((3 : Nat) : Int) from rfl, ← Int.ofNat_fdiv, ← Int.ofNat_fmod]
  have d180 : ((cellN ns k : Int).fdiv 180).fmod 3 = ((cellN ns k / 180 % 3 : Nat) : Int) := by
    rw [show (180 : Int) = ((180 : Nat) : Int) from rfl, show (3 : Int) = ((3 : Nat) : Int) from rfl, ← Int.ofNat_fdiv, ← Int.ofNat_fmod]
  have m60 : (cellN ns k : Int).fmod 60 = ((cellN ns k % 60 : Nat) : Int) := by
    rw [show (60 : Int) = ((60 : Nat) : Int) from rfl, ← Int.ofNat_fmod]
  have l60 : cellN ns k / 60 % 3 < 3 := Nat.mod_lt _ (by decide)
  have l180 : cellN ns k / 180 % 3 < 3 := Nat.mod_lt _ (by decide)
  refine ex_cons (exs_assign (P := TStr (S [marksL.getD (cellN ns k / 60 % 3) 0])) canLocal (ev_castS (ev_ch (x := "|!/") (k := cellN ns k / 60 % 3) ev_str (ev_mod (ev_fdiv ev_v ev_int (by decide) (PyProof.noPylong_small (by decide))) ev_int (by decide)) d60 ?_ ?_) (marks_at _ l60))) ?_
  · have : (Str.ofString "|!/").length = 3 := by decide +kernel
    rw [this]; exact l60
  · have : (Str.ofString "|!/").length = 3 := by decide +kernel
    rw [this]; lia
  refine ex_cons (exs_assign (P := TStr (S (notesL.getD (cellN ns k / 180 % 3) []))) canLocal (ev_item_list (Ps := [TStr (Str.ofString ""), TStr (Str.ofString "\"(\""), TStr (Str.ofString "\"((\"")]) (k := ((cellN ns k / 180 % 3 : Nat) : Int)) (lOf (ev_list (evl_cons (P := (TStr (Str.ofString "")).w) ev_str (evl_cons (P := (TStr (Str.ofString "\"(\"")).w) ev_str (evl_cons (P := (TStr (Str.ofString "\"((\"")).w) ev_str evl_nil))) (by rw [sizeLine_eq]; simp)))
    (ev_castI (ev_mod (ev_fdiv ev_v ev_int (by decide) (PyProof.noPylong_small (by decide))) ev_int (by decide)) d180) (by lia) ?_ (by lia))) ?_
  · have := notes_at _ l180
    rw [Int.toNat_natCast]
    have e : ([TStr (Str.ofString ""), TStr (Str.ofString "\"(\""), TStr (Str.ofString "\"((\"")] : List HV) = [Str.ofString "", Str.ofString "\"(\"", Str.ofString "\"((\""].map TStr := rfl
    rw [e, List.getElem?_map, this]; rfl
  have hG : (grpL (parL n 4) (cellN ns) (k + 1)).map GV = (grpL (parL n 4) (cellN ns) k).map GV ++ [GV (grpN (parL n 4) (cellN ns) k)] := by
    unfold grpL; rw [List.range_succ]; simp
  have e40 : Str.ofString "(" = S [40] := Mine.e40
  refine ex_cons (exs_append (P := GV (grpN (parL n 4) (cellN ns) k)) rfl rfl ?_ ?_) ?_
  · refine ev_tuple (Ps := [TInt (pAt (parL n 4) k), TStr (S [40, marksL.getD (cellN ns k / 60 % 3) 0, 97 + k]), TStr (S (notesL.getD (cellN ns k / 180 % 3) [])), TStr (S [marksL.getD (cellN ns k / 60 % 3) 0]), TInt ((cellN ns k % 60 : Nat) : Int)])
      (evl_cons (P := (TInt (pAt (parL n 4) k)).w) (ev_item_list (k := (k : Int)) (lOf ev_v) ev_v (by lia) ?_ (by lia)) (evl_cons (P := (TStr (S [40, marksL.getD (cellN ns k / 60 % 3) 0, 97 + k])).w) ?_ (evl_cons (P := (TStr (S (notesL.getD (cellN ns k / 180 % 3) []))).w) ev_v (evl_cons (P := (TStr (S [marksL.getD (cellN ns k / 60 % 3) 0])).w) ev_v (evl_cons (P := (TInt ((cellN ns k % 60 : Nat) : Int)).w) (ev_castI (ev_mod ev_v ev_int (by decide)) m60) evl_nil))))) (by rw [sizeLine_eq]; simp)
    · rw [List.getElem?_map, Int.toNat_natCast, hP]; rfl
    · refine ev_castS (ev_addS (ev_addS ev_str ev_v ?_) (ev_letter hk ev_v) ?_) ?_
      · rw [e40, S_len, S_len, sizeLine_eq]; simp
      · rw [e40, S_app, S_len, letter_at k hk, S_len, sizeLine_eq]; simp
      · rw [e40, S_app, letter_at k hk, S_app]; rfl
  · rw [List.length_map]; unfold grpL; rw [List.length_map, List.length_range, sizeLine_eq]; lia
  refine ex_less ex_nil (less ⟨?_, rfl, rfl, rfl, rfl, trivial⟩)
  rw [hG]; rfl
end
end Mine

namespace Mine
open PySem PySem.Calls PySem.W
open PyProof.Rows (pickNums)

section
variable {G : List Grp} {b : Nat → Bool}
theorem T_ascii (O : GT G) : ∀ k, k < 6 → ∀ c ∈ T G b k, c < 128 := by
  refine inward (P := PG G) fun k hk ih c hc => ?_
  have h1 := mk_of O k
  have h2 := nt_of O k
  cases e : b k with
  | true => rw [T_read hk e] at hc; simp at hc; lia
  | false =>
    rw [T_open hk e] at hc
    rcases List.mem_append.mp hc with hc | hc
    · unfold hdF at hc
      simp only [List.mem_cons, List.mem_append, List.not_mem_nil, or_false] at hc
      rcases hc with h | h | h | h | h
      · lia
      · lia
      · lia
      · rcases h2 with e | e | e <;> rw [e] at h <;> simp at h <;> lia
      · lia
    · rcases List.mem_append.mp hc with hc | hc
      · obtain ⟨l, hl, hm⟩ := List.mem_flatten.mp hc
        obtain ⟨j, hj, rfl⟩ := List.mem_map.mp hl
        exact ih j hj c hm
      · unfold tlF at hc
        simp only [List.mem_cons, List.mem_append, List.not_mem_nil, or_false] at hc
        rcases hc with h | h | h | h
        · lia
        · have := digs_ok _ (port_of O k) _ h; lia
        · lia
        · lia
/-- what stands ahead of a group in the law's text -/
theorem ahead_of (O : GT G) {k : Nat} (hk : k < 6) : ∃ pre : List Nat, Txt.find (S (textL G 6 0)) (S [40, mkG G k, 97 + k]) = ((pre.length : Nat) : Int) ∧ Txt.slice (S (textL G 6 0)) none (some ((pre.length : Nat) : Int)) = S pre ∧ (∀ c ∈ pre, c < 128) ∧ pre.length ≤ 6000 ∧ Bal pre (dep (PG G) k) := by
  obtain ⟨pre, post, e, hno, hb⟩ := T_path (b := fun _ => false) O k hk (fun _ _ _ => rfl)
  have e1 := e (fun _ => false) (fun _ _ => rfl)
  have hl := T_small (b := fun _ => false) O (k := 0) (by lia)
  have ha := T_ascii (b := fun _ => false) O 0 (by lia)
  rw [text_T O]
  refine ⟨pre, ?_, ?_, fun c hc => ha c (by rw [e1]; exact List.mem_append.mpr (.inl hc)), by rw [e1, List.length_append] at hl; lia, hb⟩
  · rw [e1, T_open hk rfl, hd_cut]
    simp only [List.append_assoc]
    exact head_find O hk (hno k hk .refl)
  · rw [slice_to (by rw [e1, List.length_append]; lia), e1, List.take_left]
end

section
variable {w : World} {K : PM} {KK : Frag} {fI fC : Addr} {pm cd doc : Value} {L a : Addr} {r : Nat} {φ : Around → Prop}
noncomputable abbrev lc2 (P : List Int) (G : List Grp) (n : Int) (i : Nat) : Ctx := [("depths", .ownS "list" ((List.range i).map fun k => TInt (dep P k))), ("text", .imm (TStr (S (textL G 6 0)))), ("groups", .imm (GS G)), ("parents", .imm (TList (P.map TInt))), ("order", .imm (TO n))]
theorem l_depth {P : List Int} {G : List Grp} {n : Int} (F : LawF K KK fI fC) (O : GT G) (hPG : PG G = P) {k : Nat} (hk : k < 6) :
    Ex PW w K (envAt 26 pm cd doc L a) (r + 1) (("k", .imm (TInt (k : Int))) :: lc2 P G n k) (forBody (lawBody.getD 9 (.Pass default))) (.next (lc2 P G n (k + 1))) := by
  subst hPG
  have kf := F.kf
  have D := O.tree
  have hP : (PG G)[k]? = some (pAt (PG G) k) := by
    unfold pAt; rw [List.getElem?_eq_getElem (by rw [D.len]; exact hk)]; rfl
  obtain ⟨g, hg⟩ : ∃ g, G[k]? = some g := ⟨_, List.getElem?_eq_getElem (by rw [O.six]; exact hk)⟩
  have hhd : g.head = [40, mkG G k, 97 + k] := by have := (O.at_ k g hg).1; unfold mkG; rw [hg]; exact this
  have hD : ((List.range (k + 1)).map fun k => TInt (dep (PG G) k)) = ((List.range k).map fun k => TInt (dep (PG G) k)) ++ [TInt (dep (PG G) k)] := by rw [List.range_succ]; simp
  obtain ⟨pre, hf, hsl, hasc, hlen, gs, tail, henc, hok, hcnt⟩ := ahead_of O hk
  refine ex_cons (exs_append (P := TInt (dep (PG G) k)) rfl rfl ?_ (by rw [List.length_map, List.length_range, sizeLine_eq]; lia)) ?_
  · refine ev_ifexp (c := decide ((k : Int) = 0)) (tst_eq ev_v ev_int) (fun h => ?_) (fun h => ?_)
    · have : k = 0 := by have := of_decide_eq_true h; lia
      subst this
      exact ev_castI ev_int (dep_zero _).symm
    · have h0 : k ≠ 0 := by have := of_decide_eq_false h; lia
      have hlt := D.lt k (by lia) hk
      refine ev_castI (ev_add (ev_item_list (P := TInt (dep (PG G) (par (PG G) k))) (k := pAt (PG G) k) ev_oS (ev_item_list (P := TInt (pAt (PG G) k)) (k := (k : Int)) (lOf ev_v) ev_v (by lia) ?_ (by lia)) (by lia) ?_ (by lia)) ev_int) (dep_succ D (by lia) hk).symm
      · rw [List.getElem?_map, Int.toNat_natCast, hP]; rfl
      · rw [List.getElem?_map, List.getElem?_range (by lia)]; rfl
  rw [← hD]
  refine ex_cons (exs_assign (P := TStr (S pre)) canLocal (ev_castS (ev_cutS (lo := none) (hi := some ((pre.length : Nat) : Int)) ev_v trivial
    (ev_index (k := pre.length) ev_v (ev_item_tup (k := 1) (P := TStr (S g.head)) (Ps := [TInt g.par, TStr (S g.head), TStr (S g.note), TStr (S [g.mark]), TInt g.port]) (lOf (ev_item_list (P := GV g) (k := (k : Int)) (lOf ev_v) ev_v (by lia) ?_ (by lia))) ev_int (by lia) rfl (by lia)) (by rw [hhd]; exact hf)) ?_) hsl)) ?_
  · rw [List.getElem?_map, Int.toNat_natCast, hg]; rfl
  · have := T_small (b := fun _ => false) O (k := 0) (by lia)
    rw [S_len, text_T O, sizeLine_eq]; lia
  obtain ⟨o, pm', cd', doc', T', n', t', ho, hd, hT, hc⟩ := F.pd.at_
  have hby : (byteArr (pre.map fun c => ((c : Nat) : Int))).toList = enc gs tail := by
    unfold byteArr
    rw [← henc, List.map_map]
    show pre.map _ = pre.map _
    exact List.map_congr_left fun c _ => by simp only [Function.comp]; rw [Int.toNat_natCast]
  refine ex_cons (exs_if (c := false) (tst_cast (tst_ne (x := cnt (plain gs tail)) (y := dep (PG G) k) (ev_fn kf rfl rfl (a := 172) rfl ho hd (evl_cons (P := (TBytes (byteArr (pre.map fun c => ((c : Nat) : Int)))).w) ?_ evl_nil) (fn_pd kf F.pd F.pat ?_ hby hok))
    (ev_item_list (P := TInt (dep (PG G) k)) (k := (k : Int)) ev_oS ev_v (by lia) ?_ (by lia))) ?_) (fun h => by cases h) (fun _ => ex_nil)) ?_
  · refine cb1 (fv := .type "bytes") (Pa := LSeq "list" ((pre.map fun c => ((c : Nat) : Int)).map TInt)) kf ?_ ?_ (lOf ?_) (fun X hh v p => vl_bytes p ?_ ?_)
    · first | rfl | decide +kernel
    · intro a h; cases h
    · refine ev_cast (ev_comp (own := false) (pre.map fun c => some (TInt (c : Nat))) rfl compOk (it_ascii (x := S pre) ev_v ?_) ?_ ?_ ?_ ?_) ?_
      · rw [← Array.all_toList, S_toList]
        exact List.all_eq_true.mpr fun c hc => decide_eq_true (hasc c hc)
      · rw [S_toList]; simp
      · rw [S_toList, List.length_map, sizeLine_eq]; lia
      · intro cs C i P f hP hf
        rw [List.getElem?_map, Option.map_eq_some_iff] at hf
        obtain ⟨c, hc, rfl⟩ := hf
        rfl
      · intro cs C i P P' hP hf
        rw [S_toList, List.getElem?_map, Option.map_eq_some_iff] at hP
        rw [List.getElem?_map, Option.map_eq_some_iff] at hf
        obtain ⟨c, hc, rfl⟩ := hP
        obtain ⟨c', hc', hf⟩ := hf
        rw [hc] at hc'; cases hc'; cases hf
        refine cb1 (fv := .builtin "ord") (Pa := TStr ⟨#[c]⟩) kf ?_ ?_ ev_v (fun X hh v p => vl_ord p)
        · first | rfl | decide +kernel
        · intro a h; cases h
      · rw [mapSome, List.map_map]; rfl
    · intro n hn
      obtain ⟨c, hc, rfl⟩ := List.mem_map.mp hn
      have := hasc c hc; lia
    · rw [List.length_map, sizeLine_eq]; lia
  · rw [byteArr_size, List.length_map]; lia
  · rw [hD, List.getElem?_append_right (by simp)]; simp
  · rw [hcnt]; simp
  · exact ex_less ex_nil (less ⟨rfl, rfl, rfl, rfl, rfl, trivial⟩)
end
end Mine

namespace Mine
open PySem PySem.Calls PySem.W
open PyProof.Rows (pickNums)

section
variable {w : World} {K : PM} {KK : Frag} {fI fC : Addr} {pm cd doc : Value} {L a : Addr} {r : Nat}
theorem evg_weaken {env : Env} {ρ : Ctx} {Z : List Addr} {Φ : Around → Heap → Prop} {e : Expr} {P P' : WV} (h : EvG PW w K Z Φ env r ρ e P) (hp : ∀ X h v, P.p X h v → P'.p X h v) : EvG PW w K Z Φ env r ρ e P' :=
  fun A s B X₀ W Q E R φ I hZ c => h A s B X₀ W Q E R φ I hZ fun v h' tk I' sk p => c v h' tk I' sk (hp _ _ _ p)
noncomputable def roomsL (G : List Grp) : List Int := G.map fun g => 1 + (g.port : Int).fmod 4
theorem rooms_ok {G : List Grp} (O : GT G) : Rooms G (roomsL G) := by
  intro k hk
  obtain ⟨g, hg⟩ : ∃ g, G[k]? = some g := ⟨_, List.getElem?_eq_getElem (by rw [O.six]; exact hk)⟩
  unfold pAt roomsL portOf
  rw [List.getElem?_map, hg]; rfl
noncomputable abbrev lc3 (P : List Int) (G : List Grp) (n : Int) : Ctx := [("text", .imm (TStr (S (textL G 6 0)))), ("groups", .imm (GS G)), ("parents", .imm (TList (P.map TInt))), ("order", .imm (TO n))]
noncomputable abbrev atLaw (pm cd doc : Value) (L a : Addr) : Around → Prop := fun A => A.frames = some [envAt 26 pm cd doc L a]
theorem ea : Str.ofString "a" = S [97] := by decide +kernel

theorem l_tail {P : List Int} {G : List Grp} {n : Int} (F : LawF K KK fI fC) (O : GT G) (hPG : PG G = P) :
    ExT w K (atLaw pm cd doc L a) (envAt 26 pm cd doc L a) (r + 44) (lc3 P G n) (lawBody.drop 10) (.ret (TBool true)) := by
  subst hPG
  have kf := F.kf
  obtain ⟨t, hrows, hnk, hne, htl, hmin, hmax, hsum⟩ := plain_law (R := roomsL G) O (rooms_ok O) (dir_or n)
  have RF : RFacts w K G := ⟨kf, F.parse, F.raised, F.add, F.err, O.ok⟩
  have hz := fnz_readings (r := r + 42) RF F.rdg (text := S (textL G 6 0)) (rd := rdF G) (fun s hs => by
    rw [text_T O]
    exact walkOk O hs (rinv_all O s (by lia)))
  rw [hrows] at hz
  obtain ⟨o24, pm24, cd24, doc24, ho24, hd24, hc24⟩ := F.rdg.at_
  obtain ⟨o25, pm25, cd25, doc25, ho25, hd25, hc25⟩ := F.bnd.at_
  obtain ⟨o4, pm4, cd4, doc4, ho4, hd4, hc4⟩ := F.cnt.at_
  obtain ⟨o11, pm11, cd11, doc11, ho11, hd11, hc11⟩ := F.div.i11.at_
  -- table
  refine ext_cons (exst_ofG (exsg_assign (P := TD w t) canLocal (evg_get2 (knd := strKind PW w) (kvs := rvs w [(S [97], t)]) (k := Str.ofString "a") (Pd := (TDict (intKind PW w) ([] : List (Int × HV))).w)
    (evg_weaken (evg_fnz kf rfl rfl rfl (a := 189) rfl ho24 hd24 (evl_cons (P := (TStr (S (textL G 6 0))).w) ev_v (evl_cons (P := (GS G).w) ev_v evl_nil)) hz) fun X h v p => p.2) ev_str (ev_dict0 kf) key_str (fun X h v => ?_)))) ?_
  · have hg : dget (rvs w [(S [97], t)]) (Str.ofString "a") = some (TD w t) := by
      rw [ea]; unfold rvs dget; simp
    rw [hg]
    exact ⟨fun p hp hv => by cases hp; exact hv, fun hn => by cases hn⟩
  -- if table == {}
  refine ext_cons (exst_if (c := false) (tst_eqD (knd := intKind PW w) (ka := tv t) (kb := []) (dOf ev_v) (dOf (ev_dict0 kf)) ?_) (fun h => by cases h) (fun _ => ext_nil)) ?_
  · rw [tv_len]
    cases t with
    | nil => exact absurd rfl hne
    | cons x t => simp
  -- bounds
  have hR6 : (roomsL G).length = 6 := by unfold roomsL; rw [List.length_map, O.six]
  refine ext_cons (exst_of (exs_unpack [("least", _), ("most", _), ("hooks", _)] (Ps := [TInt (lstK (PG G) (roomsL G) (dirN n) 0), TInt (mostK (PG G) (roomsL G)), TInt (hooksL (PG G) (done 6))]) (allCan ⟨canLocal, canLocal, canLocal, trivial⟩) rfl
    (lOf (ev_fn kf rfl rfl (a := 194) rfl ho25 hd25 (evl_cons (P := (TList ((PG G).map TInt)).w) ev_v (evl_cons (P := (TList ((roomsL G).map TInt)).w) ?_ (evl_cons (P := (TO n).w) ev_v evl_nil))) (fn_bounds kf F.bnd F.kk F.cls F.cmp O.tree.len hR6))))) ?_
  · refine ev_cast (ev_comp (own := false) (G.map fun g => some (TInt (1 + (g.port : Int).fmod 4))) rfl compOk (it_list ev_v) ?_ ?_ ?_ ?_) ?_
    · simp
    · rw [List.length_map, O.six, sizeLine_eq]; lia
    · intro cs C i P f hP hf
      rw [List.getElem?_map, Option.map_eq_some_iff] at hf
      obtain ⟨g, hg, rfl⟩ := hf
      rfl
    · intro cs C i P P' hP hf
      rw [List.getElem?_map, Option.map_eq_some_iff] at hP hf
      obtain ⟨g, hg, rfl⟩ := hP
      obtain ⟨g', hg', hf⟩ := hf
      rw [hg] at hg'; cases hg'; cases hf
      exact ev_add ev_int (ev_mod (ev_item_tup (k := 4) (P := TInt g.port) (Ps := [TInt g.par, TStr (S g.head), TStr (S g.note), TStr (S [g.mark]), TInt g.port]) (lOf ev_v) ev_int (by lia) rfl (by lia)) ev_int (by decide))
    · rw [mapSome]; unfold roomsL; rw [List.map_map]; rfl
  -- peaks
  refine ext_cons (exst_of (exs_comp (own := false) (Ps := (tv t).map fun kv => TInt kv.1) (t.map fun p => some (TInt p.1)) canLocal compOk (it_keys (TK := TInt) (kvs := tv t) ev_v int_key) ?_ ?_ ?_ ?_)) ?_
  · simp [tv]
  · simp [tv, sizeLine_eq]; lia
  · intro cs C i P f hP hf
    rw [List.getElem?_map, Option.map_eq_some_iff] at hf
    obtain ⟨q, hq, rfl⟩ := hf
    rfl
  · intro cs C i P P' hP hf
    rw [List.getElem?_map, Option.map_eq_some_iff] at hf
    obtain ⟨q, hq, hf⟩ := hf
    cases hf
    have : P = TInt q.1 := by simp [tv, hq] at hP; exact hP.symm
    subst this
    exact ev_v
  have hpk : (t.map fun p => some (TInt p.1)).filterMap id = (keys t).map TInt := by rw [mapSome]; unfold keys; rw [List.map_map]; rfl
  rw [hpk]
  -- min and max
  have hkne : keys t ≠ [] := by
    cases t with
    | nil => exact absurd rfl hne
    | cons x t => simp [keys]
  obtain ⟨m1, m2⟩ := lmin_spec hkne
  refine ext_cons (exst_if (c := false) (tst_cast (tst_or (tst_ne (ev_min kf (lOf ev_v) m1 m2) ev_v) (fun _ => tst_ne (ev_max kf (lOf ev_v) hkne) ev_v)) ?_) (fun h => by cases h) (fun _ => ext_nil)) ?_
  · rw [hmin, hmax]; simp
  -- the count
  generalize hH : hooksL (PG G) (done 6) = hk at hsum
  generalize hN : sumFrom 0 (t.map (·.2)) = N at hsum
  have hk0 : 0 ≤ hk := by
    rw [← hH]
    unfold hooksL
    have : ∀ (l : List Nat) (z : Int), 0 ≤ z → 0 ≤ l.foldl (fun z k => z * szK (PG G) k) z := by
      intro l
      induction l with
      | nil => intro z hz; exact hz
      | cons x l ih => intro z hz; exact ih _ (Int.mul_nonneg hz (szK_bound _ _).1)
    exact this _ _ (by decide)
  obtain ⟨b, rfl⟩ := Int.eq_ofNat_of_zero_le hk0
  have hb1 : 1 ≤ b := by
    rcases Nat.eq_zero_or_pos b with rfl | h
    · simp at hsum
    · exact h
  have hN1 : 0 < N := by
    rcases Int.lt_or_le 0 N with h | h
    · exact h
    · have : N * (b : Int) ≤ 0 := Int.mul_nonpos_of_nonpos_of_nonneg h (by lia)
      lia
  obtain ⟨m, rfl⟩ := Int.eq_ofNat_of_zero_le (Int.le_of_lt hN1)
  have hmb : m * b = 720 := by exact_mod_cast hsum
  have hb2 : b ≤ 720 := Nat.le_of_dvd (by decide) ⟨m, by rw [Nat.mul_comm]; exact hmb.symm⟩
  have e1 : 720 / b = m := by rw [← hmb]; exact Nat.mul_div_cancel m (by lia)
  have e2 : 720 % b = 0 := by rw [← hmb]; exact Nat.mul_mod_left m b
  have hcall : FnT w K 108 (r + 44) [(TInt (720 : Int)).w, (TInt ((b : Nat) : Int)).w] (TTup [TInt ((m : Nat) : Int), TInt 0]).w := by
    have := fnt_pos (w := w) (r := r) (a := 720) (b := b) kf F.div (by decide) hb1 (by lia)
    rw [e1, e2] at this
    exact this
  have hcnt : Fn PW w K 73 (r + 44) [(TD w t).w] (TInt ((m : Nat) : Int)).w := by
    have := fn_count (w := w) (r := r + 43) (t := t) kf F.cnt
    rw [hN] at this
    exact this
  have hd0 : (PyData.tuple [.int ((m : Nat) : Int), .int 0]).canLay0 = true := by simp [PyData.canLay0, PyData.canLayAll0]
  have rdt : Rd (TTup [TInt ((m : Nat) : Int), TInt 0]).w (.tuple [.int ((m : Nat) : Int), .int 0]) := rd_pair (p := (((m : Nat) : Int), 0))
  refine ext_ret (exst_return ?_)
  refine evt_weaken (evt_eqd (Pa := (TTup [TInt ((m : Nat) : Int), TInt 0]).w) (Pb := (TTup [TInt ((m : Nat) : Int), TInt 0]).w) (evt_fn kf rfl rfl (a := 108) rfl ho11 hd11 (evl_cons (P := (TInt (720 : Int)).w) ev_int (evl_cons (P := (TInt ((b : Nat) : Int)).w) ev_v evl_nil)) hcall)
    (ev_tuple (Ps := [TInt ((m : Nat) : Int), TInt 0]) (evl_cons (P := (TInt ((m : Nat) : Int)).w) (ev_fn kf rfl rfl (a := 73) rfl ho4 hd4 (evl_cons (P := (TD w t).w) ev_v evl_nil) hcnt) (evl_cons (P := (TInt 0).w) ev_int evl_nil)) (by rw [sizeLine_eq]; simp)) rdt rdt hd0 hd0 ?_) ?_
  · simp [PyData.depth, PyData.depthAll]; lia
  · intro X h v p
    rw [PySem.SeqAt.eqv_refl _ hd0] at p
    exact p
end
end Mine

namespace Mine
open PySem PySem.Calls PySem.W
open PyProof.Rows (pickNums)

section
variable {w : World} {K : PM} {KK : Frag} {fI fC : Addr} {pm cd doc : Value} {L a : Addr} {r : Nat}
set_option maxHeartbeats 2000000 in
theorem x_law {ns : List Int} (F : LawF K KK fI fC) (hns : ns.length ≤ 63) :
    ExT w K (atLaw pm cd doc L a) (envAt 26 pm cd doc L a) (r + 46) [("script", .imm (TList (ns.map TInt)))] lawBody (.ret (TBool true)) := by
  have kf := F.kf
  have hn := start_small ns
  refine ext_cons (exst_of (exs_assign (P := TInt (startN ns)) canLocal (ev_sub (ev_mod (ev_add ev_int (ev_sum kf (lOf ev_v))) ev_int (by decide)) ev_int))) ?_
  refine ext_cons (exst_of (exs_assign (P := TO (startN ns)) canLocal (l_order (r := r + 43) F (startN ns) rfl))) ?_
  refine ext_cons (exst_of (exs_new_list (Ps := [TInt (-1), TInt 0]) canLocal (ev_list (evl_cons (P := (TInt (-1)).w) (ev_neg ev_int) (evl_cons (P := (TInt 0).w) ev_int evl_nil)) (by rw [sizeLine_eq]; simp)) ?_)) ?_
  · intro P hP
    simp only [List.mem_cons, List.not_mem_nil, or_false] at hP
    rcases hP with rfl | rfl <;> exact flat_int
  refine ext_less (ρ' := lc0 ns (startN ns) 0) ?_ (less ⟨rfl, rfl, rfl, rfl, trivial⟩)
  refine ext_cons (exst_for (a := 2) (b := 6) (c := 1) (ns := [2, 3, 4, 5]) (fun i => lc0 ns (startN ns) i) canLocal (ev_range2 kf rfl rfl rfl ev_int ev_int) (by decide +kernel) (by decide +kernel) ?_ ?_) ?_
  · intro i k h
    match i, h with
    | 0, h => simp at h; lia
    | 1, h => simp at h; lia
    | 2, h => simp at h; lia
    | 3, h => simp at h; lia
    | i + 4, h => simp at h
  · intro i k h
    have hk : k = (i : Int) + 2 ∧ i < 4 := by
      match i, h with
      | 0, h => simp at h; lia
      | 1, h => simp at h; lia
      | 2, h => simp at h; lia
      | 3, h => simp at h; lia
      | i + 4, h => simp at h
    obtain ⟨rfl, hi⟩ := hk
    exact l_turn (r := r) F hn hi
  -- the groups
  refine ext_freeze (x := "parents") rfl ?_
  refine ext_cons (exst_of (exs_assign (P := TList (firstsL.map TInt)) canLocal (ev_list (Ps := firstsL.map TInt) (evl_cons (P := (TInt 17).w) ev_int (evl_cons (P := (TInt 245).w) ev_int (evl_cons (P := (TInt 100).w) ev_int (evl_cons (P := (TInt 69).w) ev_int (evl_cons (P := (TInt 382).w) ev_int (evl_cons (P := (TInt 3).w) ev_int evl_nil)))))) (by rw [sizeLine_eq]; simp [firstsL])))) ?_
  refine ext_cons (exst_of (exs_new_list (Ps := []) canLocal (ev_list evl_nil (by rw [sizeLine_eq]; simp)) (fun P hP => by cases hP))) ?_
  refine ext_less (ρ' := lc1 ns (startN ns) 0) ?_ (less ⟨rfl, rfl, rfl, rfl, rfl, trivial⟩)
  refine ext_cons (exst_of (exs_for (Ps := ((List.range 6).map fun (k : Nat) => (k : Int)).map TInt) (fun i => lc1 ns (startN ns) i) 6 canLocal
      (it_range (a := 0) (b := 6) (c := 1) (ns := (List.range 6).map fun (k : Nat) => (k : Int)) (ev_range1 kf rfl rfl rfl ev_int) (by decide +kernel) (by decide +kernel) ?_) (by simp) ?_ (.inl ⟨by simp, rfl⟩))) ?_
  · intro i k h
    rw [List.getElem?_map, Option.map_eq_some_iff] at h
    obtain ⟨j, hj, rfl⟩ := h
    have hi : i < 6 := by have := (List.getElem?_eq_some_iff.mp hj).1; simpa using this
    rw [List.getElem?_range hi] at hj
    cases hj; lia
  · intro j P hj hP
    have : P = TInt (j : Int) := by
      rw [List.getElem?_map, List.getElem?_map, List.getElem?_range hj] at hP
      simpa using hP.symm
    subst this
    exact l_group F hns hj
  refine ext_freeze (x := "groups") rfl ?_
  refine ext_less (ρ' := [("groups", .imm (GS (grpL (parL (startN ns) 4) (cellN ns) 6))), ("parents", .imm (TList ((parL (startN ns) 4).map TInt))), ("order", .imm (TO (startN ns)))]) ?_ (less ⟨rfl, rfl, rfl, trivial⟩)
  -- the text
  have O : GT (grpL (parL (startN ns) 4) (cellN ns) 6) := gt_grpL
  have hPG : PG (grpL (parL (startN ns) 4) (cellN ns) 6) = parL (startN ns) 4 := pg_grpL (parL_len _ 4)
  generalize hG : grpL (parL (startN ns) 4) (cellN ns) 6 = G at *
  generalize hP : parL (startN ns) 4 = P at *
  obtain ⟨o22, pm22, cd22, doc22, ho22, hd22, hc22⟩ := F.text.at_
  refine ext_cons (exst_of (exs_assign (P := TStr (S (textL G 6 0))) canLocal (Ev.room (r := 6) (ev_fn kf rfl rfl (a := 177) rfl ho22 hd22 (evl_cons (P := (TInt ((0 : Nat) : Int)).w) ev_int (evl_cons (P := (GS G).w) ev_v evl_nil)) (fn_text kf F.text O.ok 6 0 (by lia) (by lia) (by lia))) (by lia)))) ?_
  -- the depths
  refine ext_cons (exst_of (exs_new_list (Ps := []) canLocal (ev_list evl_nil (by rw [sizeLine_eq]; simp)) (fun P hP => by cases hP))) ?_
  refine ext_less (ρ' := lc2 P G (startN ns) 0) ?_ (less ⟨rfl, rfl, rfl, rfl, rfl, trivial⟩)
  refine ext_cons (exst_of (exs_for (Ps := ((List.range 6).map fun (k : Nat) => (k : Int)).map TInt) (fun i => lc2 P G (startN ns) i) 6 canLocal
      (it_range (a := 0) (b := 6) (c := 1) (ns := (List.range 6).map fun (k : Nat) => (k : Int)) (ev_range1 kf rfl rfl rfl ev_int) (by decide +kernel) (by decide +kernel) ?_) (by simp) ?_ (.inl ⟨by simp, rfl⟩))) ?_
  · intro i k h
    rw [List.getElem?_map, Option.map_eq_some_iff] at h
    obtain ⟨j, hj, rfl⟩ := h
    have hi : i < 6 := by have := (List.getElem?_eq_some_iff.mp hj).1; simpa using this
    rw [List.getElem?_range hi] at hj
    cases hj; lia
  · intro j Q hj hQ
    have : Q = TInt (j : Int) := by
      rw [List.getElem?_map, List.getElem?_map, List.getElem?_range hj] at hQ
      simpa using hQ.symm
    subst this
    exact l_depth (r := r + 45) F O hPG hj
  refine ext_less (ρ' := lc3 P G (startN ns)) ?_ (less ⟨rfl, rfl, rfl, rfl, trivial⟩)
  exact l_tail (r := r + 2) F O hPG
end
end Mine

namespace Mine
open PySem PySem.Calls PySem.W
open PyProof.Rows (pickNums Top recsOf litsOf clssOf ownsOf specOf OwnClsQ)

/-! ### a call of law -/
section
variable {w : World} {K : PM} {KK : Frag} {fI fC : Addr} {r : Nat}
theorem law_call {A : Around} {s : Shared} {X : XS} {ns : List Int} {a : Addr} {o : Obj} {pm cd doc : Value} {v : Value} {Q : Value → Shared → Prop} {E : Value → Shared → Prop} (F : LawF K KK fI fC) (hns : ns.length ≤ 63) (R : Room A (r + 47)) (hA : A.frames = some [])
    (kK : Sub K s.heap) (hX : ∀ b, X b → (s.heap.get? b).isSome = true) (x89 : X 89) (x96 : X 96) (T : Tabs s.heap) (ho : K a = some o) (hd : o.data = .func (fdAt 26 pm cd doc)) (hc : ∀ h, Sub K h → h.CodeRec cd (nameOf (stm 26)))
    (hv : (TList (ns.map TInt)).p X s.heap v) (c : ∀ h' tk, (∀ b o, b ≠ 89 → b ≠ 96 → s.heap.get? b = some o → h'.get? b = some o) → Tabs h' → Q (.bool true) { s with heap := h', toks := tk }) : wpAny (model PW w) A (call (.ref a) [v]) Q E s := by
  refine fn_run (ps := [("script", TList (ns.map TInt))]) (T := fun b => b = 89 ∨ b = 96) F.kf (by have := R.dep; lia) kK hX (by rintro b (rfl | rfl); exact F.div.t9.none_; exact F.div.t10.none_) ho hd hc rfl rfl rfl (fun L => canP ⟨canLocal, trivial⟩) ⟨hv, trivial⟩ (fun hh tk E' keep I => ?_) rfl rfl rfl
  refine x_law (r := r) F hns (A.deeper (callEnvC (fdAt 26 pm cd doc) s.heap.objs.size a)) { s with heap := hh, toks := tk } _ X _ _ _ R.deeper (Around.frames_deeper hA) I ⟨⟨x89, bmax_off (.inl rfl)⟩, ⟨x96, bmax_off (.inr rfl)⟩⟩ (T.keeps keep) ?_
  rintro f h' tk' ⟨v, rfl, hs, hp⟩ T'
  obtain rfl : v = .bool true := hp
  exact c h' tk' (fun b o h1 h2 e => hs b o (bmax_some (by rintro (z | z) <;> contradiction) e)) T'
end

/-! ### what the head's literal must hold -/
noncomputable def FnLit (KK : Frag) (k : Nat) (a : Addr) : Prop := ∃ o pm cd doc, KK.lookup a = some o ∧ o.data = .func (fdAt k pm cd doc) ∧ codeIn KK cd (nameOf (stm k)) = true
noncomputable def FnLitC (KK : Frag) (k : Nat) (a c : Addr) : Prop := ∃ o pm doc, KK.lookup a = some o ∧ o.data = .func (fdAt k pm (.ref c) doc) ∧ codeIn KK (.ref c) (nameOf (stm k)) = true
noncomputable def FnLitQ (KK : Frag) (st : Stmt) (q : Str) (a : Addr) : Prop := ∃ o pm cd doc, KK.lookup a = some o ∧ o.data = .func (fdQ st q pm cd doc) ∧ codeIn KK cd q = true
noncomputable def PdLit (KK : Frag) : Prop := ∃ o pm cd doc T n t, KK.lookup 172 = some o ∧ o.data = .func { fdAt 20 pm cd doc with defaults := .ref T } ∧ KK.lookup T = some { cls := .type "tuple", data := .seq #[.int 0 t] n } ∧ codeIn KK cd (nameOf (stm 20)) = true
noncomputable def AllGL (KK : Frag) : List (Str × Value) → Prop
  | [] => True
  | p :: r => nsIn KK mainGlobals p.1 = some (some p.2) ∧ AllGL KK r
theorem AllGL.at {KK : Frag} : ∀ {l : List (Str × Value)}, AllGL KK l → ∀ {x : Str} {v : Value}, l.lookup x = some v → nsIn KK mainGlobals x = some (some v)
  | [], _, _, _, h => by cases h
  | (y, u) :: r, ⟨h1, h2⟩, x, v, h => by
    rw [List.lookup_cons] at h
    cases hb : x == y with
    | true => rw [hb] at h; cases h; rw [eq_of_beq hb]; exact h1
    | false => rw [hb] at h; exact h2.at h
structure Lits (KK : Frag) : Prop where
  l17 : FnLit KK 17 159
  l23 : FnLit KK 23 184
  l3 : FnLit KK 3 66
  l22 : FnLit KK 22 177
  l24 : FnLit KK 24 189
  l25 : FnLit KK 25 194
  l4 : FnLit KK 4 73
  l7 : FnLit KK 7 80
  l11 : FnLit KK 11 108
  l12 : FnLit KK 12 115
  l26 : FnLit KK 26 199
  l9 : FnLitC KK 9 94 93
  l10 : FnLitC KK 10 101 100
  pd : PdLit KK
  pat : PatK (fun a => List.lookup a KK) 164
  cls : ClsOk KK 55 52
  new : NewOk KK 55 45
  ini : FnLitQ KK initStm "TupleComp.__init__" 45
  cmp : FnLitQ KK cmpStm "TupleComp.compare" 52
  spc : specialIn KK (.ref 55) "__call__" = some (some (.builtin "type.__call__"))
  cob : ∃ o cd, KK.lookup 55 = some o ∧ o.data = .cls cd
  gl : AllGL KK GL
  tabs : noTabs KK = true

noncomputable abbrev tabs2 : List (Addr × Addr) := [(100, 96), (93, 89)]
section
variable {h₁ : Heap} {KK : Frag} {view : Program} {loose : List Str} {mean : ExcName → Option Value} {mg mb : Str → Option Value}
theorem ownTail_ghost {bmB bm : List Value} (hT : TabsAt tabs2 h₁) (T : OwnTail h₁ bmB bm) : OwnTail (ghostOf h₁ tabs2) bmB bm := by
  induction T with
  | base => exact .base
  | own ho hn hi _ ih => exact .own (ghost_get hT ho (fun q => by cases q)) (ghost_ns hT hn) hi ih
theorem err_at {bmB : List Value} (hT : TabsAt tabs2 h₁) (T : Top view loose mean mg mb h₁) (hs : specOf view "error_proto" = some ("Exception.__new__", bmB)) (hb : bmB = [.type "Exception", .type "BaseException", .type "object"]) (h150 : mg "error_proto" = some (.ref 150)) :
    ∀ h, (∀ b o, (ghostOf h₁ tabs2).get? b = some o → h.get? b = some o) → ErrAt h 150 := by
  obtain ⟨C, O, _⟩ := T.ownAt hs
  have hC : C = 150 := by have := O.bound; rw [h150] at this; cases this; rfl
  subst hC
  obtain ⟨bm, N, nm, q, bs, hdct, sn, sub, ab, col, dd, k0, k1, k2, k3, k5, mN, hobj, hN, hi, hTl⟩ := O.own.obj
  intro h k
  have T2 := (ownTail_ghost hT hTl).keeps k
  exact ⟨nm, q, N, bs, bm, bmB, hdct, sn, sub, ab, col, dd, k0, k1, k2, k3, k5, "Exception", "Exception.__new__", "Exception.__init__", mN, by rw [hb]; exact PySem.F.excBase_Exception, k _ _ (ghost_get hT hobj (fun q => by cases q)), (ghost_ns hT hN).keeps k, hi, T2, T2.hasType (by rw [hb]; decide)⟩

theorem law_facts {bmB : List Value} (hT : TabsAt tabs2 h₁) (T : Top view loose mean mg mb h₁) (KX : KK.In h₁) (Lt : Lits KK)
    (hnames : ((loose ++ (recsOf view).map (·.name) ++ (litsOf view).map (·.1) ++ (clssOf view loose).map (·.name)).all fun n => (GL.lookup n).isSome) = true)
    (hs : specOf view "error_proto" = some ("Exception.__new__", bmB)) (hb : bmB = [.type "Exception", .type "BaseException", .type "object"]) :
    LawF (ghostOf h₁ tabs2).get? KK 45 52 ∧ FnAt (ghostOf h₁ tabs2).get? 26 199 := by
  have KG := ghost_K hT KX Lt.tabs
  have kk : ∀ h, Sub (ghostOf h₁ tabs2).get? h → KK.In h := fun h k a o e => k a o (KG a o e)
  have glAt : ∀ x v, GL.lookup x = some v → mg x = some v := fun x v h => mg_of KX T.g (Lt.gl.at h)
  have gg : ∀ h, Sub (ghostOf h₁ tabs2).get? h → h.Ns mainGlobals mg := fun h k => (ghost_ns hT T.g).keeps k
  have kf : KF (ghostOf h₁ tabs2).get? GL := by
    refine ⟨fun h k => ?_, fun h k => ⟨mg, gg h k, glAt, fun x hx hst => ?_⟩, fun h k => ⟨mb, (ghost_ns hT T.b).keeps k, T.builtins⟩⟩
    · obtain ⟨mc, a, r⟩ := T.nolimit
      exact ⟨mc, (ghost_ns hT a).keeps k, r⟩
    · have no : ∀ n ∈ loose ++ (recsOf view).map (·.name) ++ (litsOf view).map (·.1) ++ (clssOf view loose).map (·.name), x ≠ n := fun n hn e => by
        have := List.all_eq_true.mp hnames n hn
        rw [← e, hx] at this; cases this
      refine T.free x hst (fun z => ?_) (fun z => ?_) (fun z => ?_) (fun z => ?_)
      · exact no x (List.mem_append.mpr (.inl (List.mem_append.mpr (.inl (List.mem_append.mpr (.inl z)))))) rfl
      · exact no x (List.mem_append.mpr (.inl (List.mem_append.mpr (.inl (List.mem_append.mpr (.inr z)))))) rfl
      · exact no x (List.mem_append.mpr (.inl (List.mem_append.mpr (.inr z)))) rfl
      · exact no x (List.mem_append.mpr (.inr z)) rfl
  have fn : ∀ {k a}, FnLit KK k a → FnAt (ghostOf h₁ tabs2).get? k a := fun ⟨o, pm, cd, doc, h1, h2, h3⟩ => ⟨⟨o, pm, cd, doc, KG _ _ h1, h2, fun h k => codeRec_of (kk h k) h3⟩⟩
  have fnC : ∀ {k a c}, FnLitC KK k a c → FnAtC (ghostOf h₁ tabs2).get? k a c := fun ⟨o, pm, doc, h1, h2, h3⟩ => ⟨⟨o, pm, doc, KG _ _ h1, h2, fun h k => codeRec_of (kk h k) h3⟩⟩
  have fnQ : ∀ {st q a}, FnLitQ KK st q a → FnQ (ghostOf h₁ tabs2).get? st q a := fun ⟨o, pm, cd, doc, h1, h2, h3⟩ => ⟨⟨o, pm, cd, doc, KG _ _ h1, h2, fun h k => codeRec_of (kk h k) h3⟩⟩
  have ca := ghost_code hT
  have tf : ∀ {c P : Addr}, (c, P) ∈ tabs2 → CodeHd (ghostOf h₁ tabs2) c P → TabFacts (ghostOf h₁ tabs2).get? c P := by
    intro c P hm hcd
    have hPn : (ghostOf h₁ tabs2).get? P = none := hideAll_none _ (List.mem_map.mpr ⟨(c, P), hm, rfl⟩)
    refine ⟨fun h k => hcd.keeps k, fun h mg' k hns => ?_, hPn, fun e => ?_⟩
    · have := ns_uniq hns (gg h k)
      subst this
      obtain ⟨bm, ob, a1, a2, a3, a4, a5, a6⟩ := T.bmain
      have a3' := ghost_get hT a3 (fun q => by rw [q] at a4; cases a4)
      refine ⟨bm, ob, a1, a2, fun e => ?_, fun e => ?_, k _ _ a3', a4, a5, a6⟩
      · obtain ⟨og, es, ep, e1, e2, _⟩ := ghost_ns hT T.g
        rw [← e, a3'] at e1; cases e1; rw [a6] at e2; cases e2
      · rw [e, hPn] at a3'; cases a3'
    · obtain ⟨og, es, ep, e1, e2, _⟩ := ghost_ns hT T.g
      rw [e, hPn] at e1; cases e1
  have pd : PdAt (ghostOf h₁ tabs2).get? := by
    obtain ⟨o, pm, cd, doc, T', n, t, h1, h2, h3, h4⟩ := Lt.pd
    exact ⟨⟨o, pm, cd, doc, T', n, t, KG _ _ h1, h2, KG _ _ h3, fun h k => codeRec_of (kk h k) h4⟩⟩
  have pat : PatK (ghostOf h₁ tabs2).get? 164 := by
    obtain ⟨fs, T', ws, n, h1, h2, h3, h4, h5, h6⟩ := Lt.pat.at_
    exact ⟨⟨fs, T', ws, n, KG _ _ h1, h2, h3, h4, KG _ _ h5, h6⟩⟩
  obtain ⟨oc, cdc, hc1, hc2⟩ := Lt.cob
  exact ⟨⟨kf, fn Lt.l17, fn Lt.l23, fn Lt.l3, fun h k => err_at hT T hs hb (glAt _ _ rfl) h k, fn Lt.l22, fn Lt.l24, fn Lt.l25, fn Lt.l4,
    ⟨fnC Lt.l9, tf (by simp) ca.2.1, fnC Lt.l10, tf (by simp) ca.1, fn Lt.l7, fn Lt.l11, fn Lt.l12⟩, pd, pat, kk, Lt.cls, Lt.new, fnQ Lt.ini, fnQ Lt.cmp, Lt.spc, ⟨oc, cdc, KG _ _ hc1, hc2⟩⟩, fn Lt.l26⟩
end
end Mine

namespace Mine
open PySem PySem.Calls PySem.W
open PyProof.Rows (Top recsOf litsOf clssOf specOf IntsAre)

theorem find_own {KK : Frag} {C : Addr} {cd : ClassData} {od : Obj} {l : Addr} {name : Str} (h1 : clsIn KK C = some cd) (h2 : findIn KK (.ref C) name = some none) (h3 : cd.hasDict = true) (h : lookIn name od = some (some (.ref l))) : findObj KK C (some od) name = some (.value (.ref l)) := by
  unfold findObj
  rw [h1, h2]
  simp only [Option.bind_some]
  unfold ownOf
  rw [h3]
  simp [h]

section
variable {w : World} {s₁ : Shared} {KK : Frag} {view : Program} {loose : List Str} {mean : ExcName → Option Value} {mg mb : Str → Option Value} {bmB : List Value}
theorem good_end {c : ClaimW} {cl : Str → Option Addr} {mean' : ExcName → Option Value} {args : List WData} {h' : Heap} {tk : Tok} (hT : TabsAt tabs2 s₁.heap) (hg : s₁.gens = #[]) (hr : ∀ cls, c.raises args cls = false) (hp : c.post args (.bool true) args = true)
    (keep : ∀ b o, b ≠ 89 → b ≠ 96 → s₁.heap.get? b = some o → h'.get? b = some o) (T : Tabs h') : GoodWG c cl mean' args s₁ (.ok (.ret (.bool true))) { s₁ with heap := h', toks := tk } := by
  have grown : ∀ b o, b = 89 ∨ b = 96 → s₁.heap.get? b = some o → isCodeTable s₁.heap b ∧ o = tabObj #[] ∧ ∃ ps, h'.get? b = some (tabObj ps) := by
    intro b o hb e
    rcases hb with rfl | rfl
    · have q := hT (93, 89) (by simp)
      have e2 := q.2
      rw [e] at e2
      obtain ⟨ps, hps, _⟩ := T.1
      exact ⟨(q.1.tab q.2).isCodeTable, Option.some.inj e2, ps, hps⟩
    · have q := hT (100, 96) (by simp)
      have e2 := q.2
      rw [e] at e2
      obtain ⟨ps, hps, _⟩ := T.2
      exact ⟨(q.1.tab q.2).isCodeTable, Option.some.inj e2, ps, hps⟩
  refine ⟨.inl ⟨_, _, [], rfl, hr, ReadsW.bool true, hp, fun _ => ⟨List.nodup_nil, fun _ hm => (nomatch hm)⟩⟩, ⟨fun b o e => ?_, fun b o e => ?_⟩, rfl, .of_eq hg⟩
  · by_cases hb : b = 89 ∨ b = 96
    · obtain ⟨ht, rfl, ps, hP⟩ := grown b o hb e
      exact .inr (.inl ⟨ht, rfl, #[], ps, rfl, by rw [Array.empty_append]; exact hP⟩)
    · exact .inl (keep b o (fun z => hb (.inl z)) (fun z => hb (.inr z)) e)
  · by_cases hb : b = 89 ∨ b = 96
    · obtain ⟨_, _, ps, hP⟩ := grown b o hb e
      exact ⟨_, hP⟩
    · exact ⟨o, keep b o (fun z => hb (.inl z)) (fun z => hb (.inr z)) e⟩

theorem law_end {c : ClaimW} {cl : Str → Option Addr} {mean' : ExcName → Option Value} {args : List WData} {ns : List Int} {l fa : Addr} {vs : List Value} (hT : TabsAt tabs2 s₁.heap) (T : Top view loose mean mg mb s₁.heap) (KX : KK.In s₁.heap) (Lt : Lits KK)
    (hnames : ((loose ++ (recsOf view).map (·.name) ++ (litsOf view).map (·.1) ++ (clssOf view loose).map (·.name)).all fun n => (GL.lookup n).isSome) = true)
    (hs : specOf view "error_proto" = some ("Exception.__new__", bmB)) (hb : bmB = [.type "Exception", .type "BaseException", .type "object"])
    (hmg : mg "law" = some (.ref fa)) (hg : s₁.gens = #[]) (hL : s₁.heap.IsList l vs.toArray) (hI : IntsAre vs ns) (hW : Well w.params s₁.heap (.ref l) (ofPy (.list (ns.map .int)))) (hns : ¬ ((63 : Nat) : Int) < (ns.length : Int))
    (hr : ∀ cls, c.raises args cls = false) (hp : c.post args (.bool true) args = true) :
    wpAny (model PW w) callerA (PySem.call (.ref fa) [.ref l]) (fun v s' => GoodWG c cl mean' args s₁ (.ok (.ret v)) s') (fun e s' => GoodWG c cl mean' args s₁ (.error e) s') s₁ := by
  obtain ⟨F, FL⟩ := law_facts hT T KX Lt hnames hs hb
  have h199 : mg "law" = some (.ref 199) := mg_of KX T.g (Lt.gl.at (x := Str.ofString "law") rfl)
  rw [h199] at hmg
  cases hmg
  obtain ⟨o, pm, cd, doc, ho, hd, hc⟩ := FL.at_
  have t89 := (hT (93, 89) (by simp)).2
  have t96 := (hT (100, 96) (by simp)).2
  have hplain : s₁.heap.get? l = some { cls := .type "list", data := .seq vs.toArray } := by
    obtain ⟨o', e1, _, n, e2⟩ := hL
    have : ∃ vs' : List Value, s₁.heap.get? l = some { cls := .type "list", data := .seq vs'.toArray } := by
      have hW' : Well w.params s₁.heap (.ref l) (.list (ofPys (ns.map .int))) := hW
      cases hW' with
      | list h _ => exact ⟨_, h⟩
    obtain ⟨vs', e3⟩ := this
    rw [e1] at e3
    cases e3
    cases e2
    exact e1
  refine law_call (r := 0) (X := fun b => b = 89 ∨ b = 96) (ns := ns) F (by omega) ⟨rfl, by decide, by decide⟩ rfl (fun a o e => of_hideAll _ e) ?_ (.inl rfl) (.inr rfl) ⟨⟨#[], t89, .inl rfl⟩, ⟨#[], t96, .inl rfl⟩⟩ ho hd hc ?_ fun h' tk keep T' => good_end hT hg hr hp keep T'
  · rintro b (rfl | rfl)
    · exact liveAt t89
    · exact liveAt t96
  · refine ⟨⟨l, rfl, ?_⟩, l, vs.toArray, _, rfl, hplain, by simpa using itemsOfInts hI⟩
    rintro (rfl | rfl)
    · rw [hplain] at t89; cases t89
    · rw [hplain] at t96; cases t96
end
end Mine

namespace Mine
open PySem PySem.W PyProof.Rows
/-- the text's statements that the head holds fast -/
noncomputable def viewQ : Program := { PySem.Challenge.pw_xg0058_01 with main := { PySem.Challenge.pw_xg0058_01.main with body := [0, 2, 3, 4, 6, 7, 8, 9, 10, 11, 12, 14, 15, 16, 17, 19, 22, 23, 24, 25, 26].filterMap fun k => PySem.Challenge.pw_xg0058_01.main.body[k]? } }
theorem left_of {p q : Program} {loose : List Str} {Xt : Shared → Bool} {α : Type} {Yf : Shared → α} {Ya : World → α} {N : Nat}
    (h : ∀ w, (openEnds treeTable p w N).map (fun s => (openSeen q loose (importedModules p.main.body) Xt true s, Yf s)) = some (openGood q loose, Ya w)) : LeftO p q loose Xt Yf Ya N := h
theorem rowSaid : PySem.Challenge.rw_xg0058_01.row.wellSaid = true := by
  unfold OpenRow.wellSaid
  refine look_both (look_both ?p ?b1) ?b2
  case b1 => decide +kernel
  case b2 => decide +kernel
  unfold OpenRow.partSaid
  refine look_both (look_both (look_both (look_both (look_both (look_both (look_both (look_both (look_both (look_both (look_both (look_both ?c1 ?c2) ?c3) ?c4) ?c5) ?c6) ?c7) ?c8) ?c9) ?c10) ?c11) ?c12) ?c13
  case c1 =>
    unfold looksOpen
    refine look_both (look_both (look_both (look_both (look_both (look_both ?d1 ?d2) ?d3) ?d4) ?d5) ?d6) ?d7
    all_goals decide +kernel
  all_goals decide +kernel
theorem lawSaid : PySem.Challenge.rw_xg0058_01.wellSaid = true := by
  unfold OpenLaw.wellSaid
  refine look_both (look_both (look_both (look_both (look_both (look_both (look_both (look_both (look_both (look_both (look_both (look_both (look_both (look_both (look_both (look_both (look_both (look_both ?a1 ?a2) ?a3) ?a4) ?a5) ?a6) ?a7) ?a8) ?a9) ?a10) ?a11) ?a12) ?a13) ?a14) ?a15) ?a16) ?a17) ?a18) ?a19
  case a1 => exact rowSaid
  all_goals decide +kernel
/-- the head of this law, its top run whole -/
theorem headOf (H : Hook) {d : DefRec} {kwd : List (Str × Expr)}
    (left : LeftO PySem.Challenge.rw_xg0058_01.row.prog viewQ [Str.ofString "_quoted", Str.ofString "_paren_depth"] (fun s => xlAt viewQ [] s && recOk (RowW.records (OpenRow.toRowW PySem.Challenge.rw_xg0058_01.row)) s) H.obs H.val 3126)
    (hw : (OpenRow.toRowW PySem.Challenge.rw_xg0058_01.row).promised)
    (call : WalkO viewQ [Str.ofString "_quoted", Str.ofString "_paren_depth"] (XL viewQ []) H.says (OpenRow.toRowW PySem.Challenge.rw_xg0058_01.row) d kwd fun f vs => PySem.call f vs)
    (said : PySem.Challenge.rw_xg0058_01.row.wellSaid = true)
    (h1 : defOf viewQ PySem.Challenge.rw_xg0058_01.row.name = some (d, kwd)) (h2 : PySem.Challenge.rw_xg0058_01.row.prog.theDef PySem.Challenge.rw_xg0058_01.row.name = some (d.params, d.body, d.scope)) (h3 : kwWritten? d.params.kwonlyargs d.params.kw_defaults = some kwd)
    (h4 : (chainsOk viewQ && opensWell PySem.Challenge.rw_xg0058_01.row.prog && (frees PySem.Challenge.rw_xg0058_01.row.toRowW && PySem.Challenge.rw_xg0058_01.row.within.isEmpty)) = true) (h5 : PySem.Challenge.rw_xg0058_01.row.prog.bare) : PySem.Challenge.rw_xg0058_01.row.Holds :=
  holds_open (q := viewQ) left H.of H.keeps (fun s e => xl_of s (Bool.and_eq_true_iff.mp e).1) XL.keeps h1 h2 h3 (fun s e => recFacts_of (Bool.and_eq_true_iff.mp e).2) rfl said h4 h5 hw call
end Mine
open PySem PySem.W PyProof.Rows
local macro_rules | `(tactic| o_head $H) => `(tactic| refine Mine.headOf $H ?hl ?hw ?hc Mine.rowSaid (by rfl) (by rfl) (by rfl) (by decide +kernel) ⟨rfl, rfl, rfl, rfl, rfl, by decide +kernel⟩)
set_option maxHeartbeats 8000000 in
theorem PySem.Challenge.cw_xg0058_01_holds : PySem.Challenge.rw_xg0058_01.Holds := by
  w_on
  refine holds_law Mine.lawSaid fun said => ?_
  k_head
  case hl => exact Mine.left_of fun w => by kernel_rfl
  case hw => w_witness2
  intro w s₀ s₁ mg mb G Y fa o pm cd doc dV kV ho hd hcd hD hmg hg args vals as hpre hlay hrd hwl hlo
  have KX := km_in_of Y
  have hT8 := km_tabs_of Y
  refine Ground.open G ?_
  intro T B D TE TW
  have hT : TabsAt Mine.tabs2 s₁.heap := List.forall_mem_cons.mpr ⟨⟨codeHd_of_K (c := 100) (P := 96) KX (by kernel_rfl), hT8 96 (by simp)⟩, List.forall_mem_cons.mpr ⟨⟨codeHd_of_K (c := 93) (P := 89) KX (by kernel_rfl), hT8 89 (by simp)⟩, fun _ h => nomatch h⟩⟩
  wrow_args hpre hlay hrd hwl hlo
  refine Mine.law_end hT T KX ?lits (by kernel_rfl) (by rfl) rfl hmg hg (by assumption) (by assumption) (by assumption) (by assumption) (fun _ => rfl) (by first | rfl | wrow_post)
  refine ⟨⟨_, _, _, _, rfl, rfl, by kernel_rfl⟩, ⟨_, _, _, _, rfl, rfl, by kernel_rfl⟩, ⟨_, _, _, _, rfl, rfl, by kernel_rfl⟩, ⟨_, _, _, _, rfl, rfl, by kernel_rfl⟩, ⟨_, _, _, _, rfl, rfl, by kernel_rfl⟩, ⟨_, _, _, _, rfl, rfl, by kernel_rfl⟩,
    ⟨_, _, _, _, rfl, rfl, by kernel_rfl⟩, ⟨_, _, _, _, rfl, rfl, by kernel_rfl⟩, ⟨_, _, _, _, rfl, rfl, by kernel_rfl⟩, ⟨_, _, _, _, rfl, rfl, by kernel_rfl⟩, ⟨_, _, _, _, rfl, rfl, by kernel_rfl⟩, ⟨_, _, _, rfl, rfl, by kernel_rfl⟩, ⟨_, _, _, rfl, rfl, by kernel_rfl⟩,
    ⟨_, _, _, _, _, _, _, rfl, rfl, rfl, by kernel_rfl⟩, ⟨⟨_, _, _, _, rfl, rfl, by rfl, by rfl, rfl, by kernel_rfl⟩⟩, ⟨by kernel_rfl, by kernel_rfl, by kernel_rfl, by kernel_rfl, ⟨_, _, rfl, rfl⟩, fun od l h => Mine.find_own rfl (by kernel_rfl) rfl h⟩,
    ⟨by kernel_rfl, by kernel_rfl, by kernel_rfl, by kernel_rfl, by kernel_rfl, by kernel_rfl, by kernel_rfl⟩, ⟨_, _, _, _, rfl, rfl, by kernel_rfl⟩, ⟨_, _, _, _, rfl, rfl, by kernel_rfl⟩, by kernel_rfl, ⟨_, _, rfl, rfl⟩, ?_, by kernel_rfl⟩
  unfold Mine.GL
  repeat (first | exact trivial | refine ⟨by kernel_rfl, ?_⟩)
