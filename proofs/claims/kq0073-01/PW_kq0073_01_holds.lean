import PyProof.Rows.All
import PyProof.IsiH_list
import PyProof.Rows.CallKwBuiltin
import KE.BitLaws
import KE.BytesMake
import KE.KLam
import KE.KFromBytes
import KE.KIsBytes
import KE.KxPercent
import KE.KTryMore
import KE.KWhile
import KE.KxDecode
import Wide.FinOn
import OpenK.AllK
import Wide.All
import Lean
import PySem.Challenge.RW_kq0073_01
set_option compiler.extract_closed false

section
open PySem PySem.W PySem.Calls PySem.Spec PyProof.Rows
set_option Elab.async false
set_option maxRecDepth 100000
set_option linter.unusedVariables false
namespace Mine

inductive PV where
  | none | bool (b : Bool) | int (i : Int) | str (s : List Nat) | bytes (b : List UInt8) | type (n : String) | builtin (id : String) | ref (a : Addr) | other

noncomputable def abs : Value → PV
  | .none => .none
  | .bool b => .bool b
  | .int i _ => .int i
  | .str s _ => .str s.cps.toList
  | .bytes b _ => .bytes b.toList
  | .type n => .type n
  | .builtin i => .builtin i
  | .ref a => .ref a
  | _ => .other

theorem abs_none {v : Value} (h : abs v = .none) : v = .none := by cases v <;> simp [abs] at h ⊢
theorem abs_bool {v : Value} {b : Bool} (h : abs v = .bool b) : v = .bool b := by cases v <;> simp [abs] at h ⊢; exact h
theorem abs_int {v : Value} {i : Int} (h : abs v = .int i) : ∃ t, v = .int i t := by
  cases v <;> simp [abs] at h
  subst h; exact ⟨_, rfl⟩
theorem abs_str {v : Value} {l : List Nat} (h : abs v = .str l) : ∃ t, v = .str ⟨l.toArray⟩ t := by
  cases v <;> simp [abs] at h
  subst h; exact ⟨_, rfl⟩
theorem abs_bytes {v : Value} {l : List UInt8} (h : abs v = .bytes l) : ∃ t, v = .bytes l.toArray t := by
  cases v <;> simp [abs] at h
  subst h; exact ⟨_, rfl⟩
theorem abs_type {v : Value} {n : String} (h : abs v = .type n) : v = .type n := by cases v <;> simp [abs] at h ⊢; exact h
theorem abs_builtin {v : Value} {n : String} (h : abs v = .builtin n) : v = .builtin n := by cases v <;> simp [abs] at h ⊢; exact h
theorem abs_ref {v : Value} {a : Addr} (h : abs v = .ref a) : v = .ref a := by cases v <;> simp [abs] at h ⊢; exact h

noncomputable abbrev Loc := List (Option PV)
inductive PO where
  | list (xs : List PV) | tuple (xs : List PV) | range (n : Int) | raw (o : Obj)
noncomputable abbrev PH := Addr → Option PO
noncomputable def PH.set (H : PH) (a : Addr) (o : PO) : PH := fun b => if b = a then some o else H b
noncomputable def PO.Rep : PO → Obj → Prop
  | .list xs, o => ∃ vs n, o = listOf vs n ∧ vs.toList.map abs = xs
  | .tuple xs, o => ∃ vs : List Value, o = { cls := .type "tuple", data := .seq vs.toArray } ∧ vs.map abs = xs
  | .range n, o => ∃ t u v, o = { cls := .type "range", data := .fields #[.int 0 t, .int n u, .int 1 v] }
  | .raw o', o => o = o'

structure Gx where
  prog : Program
  w : World
  K : Frag
  p : Program
  loose : List Str
  mg : Str → Option Value
  mb : Str → Option Value
structure Cx where
  g : Gx
  A : Around
  env : Env
  E : Value → Shared → Prop
  h₀ : Heap
  s₀ : Shared
  A₀ : Around
  base : Heap
  outer : List Env
noncomputable abbrev Cx.prog (C : Cx) : Program := C.g.prog
noncomputable abbrev Cx.w (C : Cx) : World := C.g.w
noncomputable abbrev Cx.K (C : Cx) : Frag := C.g.K

structure Cx.Ok (C : Cx) : Prop where
  kind : C.env.scope.kind = .function
  glob : C.env.globals = mainGlobals
  blt : C.env.builtins = builtinsNs
  frame : C.env.frame = some C.env.locals
  hand : C.A.handled = none
  kin : C.K.In C.h₀
  top : TopRead C.g.p C.g.loose C.g.mg C.g.mb C.h₀
  passes : PassesOwn (model C.prog C.w) C.A C.env C.E
  inj : ∀ x y c, C.env.cells.lookup x = some c → C.env.cells.lookup y = some c → x = y
  names : (C.env.scope.names.map (·.1)).Nodup
  hA : C.A = C.A₀.deeper C.env
  below : Below C.A₀ C.base C.outer C.h₀
  bm : ∃ bm ob, C.g.mg "__builtins__" = some (.ref bm) ∧ bm ≠ builtinsNs ∧ C.h₀.get? bm = some ob ∧ ob.cls = .type "module" ∧ ob.dict = some builtinsNs ∧ ob.data = .plain

structure SimW (C : Cx) (R : List (Addr × Obj)) (m : Loc) (H : PH) (s : Shared) (mr : Str → Option Value) (news : List (Addr × Obj)) : Prop where
  st : ∃ h t, s = { C.s₀ with heap := h, toks := t }
  fr : Fr C.h₀ C.env.locals s.heap mr
  nw : News C.h₀ C.env.locals s.heap news
  rest : ∀ p ∈ R, p ∈ news ∧ H p.1 = none
  loc : ∀ (i : Nat) x v, C.env.scope.names[i]? = some (x, NameKind.local) → m[i]? = some (some v) → ∃ w, mr x = some w ∧ abs w = v
  cel : ∀ (i : Nat) x k v, C.env.scope.names[i]? = some (x, k) → k = NameKind.cell ∨ k = NameKind.free → m[i]? = some (some v) → ∃ c o w, C.env.cells.lookup x = some c ∧ (c, o) ∈ news ∧ o.data = .cell (some w) ∧ abs w = v
  celS : ∀ x c, C.env.cells.lookup x = some c → H c = none ∧ (∀ p ∈ R, p.1 ≠ c) ∧ ∃ o w, (c, o) ∈ news ∧ o.data = .cell w
  view : ∀ a po, H a = some po → ∃ o, (a, o) ∈ news ∧ po.Rep o
noncomputable def Sim (C : Cx) (R : List (Addr × Obj)) (m : Loc) (H : PH) (s : Shared) : Prop := ∃ mr news, SimW C R m H s mr news

theorem SimW.toks {C : Cx} {R : List (Addr × Obj)} {m : Loc} {H : PH} {s : Shared} {mr news} (S : SimW C R m H s mr news) (t : Nat) : SimW C R m H { s with toks := t } mr news := by
  obtain ⟨h, t', rfl⟩ := S.st
  exact ⟨⟨h, t, rfl⟩, S.fr, S.nw, S.rest, S.loc, S.cel, S.celS, S.view⟩
theorem Sim.toks {C : Cx} {R : List (Addr × Obj)} {m : Loc} {H : PH} {s : Shared} (S : Sim C R m H s) (t : Nat) : Sim C R m H { s with toks := t } :=
  let ⟨_, _, S⟩ := S; ⟨_, _, S.toks t⟩

/-- a triple over a tree -/
noncomputable def T {α β : Type} (C : Cx) (m : Loc) (H : PH) (r : α → β) (t : Sem α) (Q : β → PH → Prop) : Prop :=
  ∀ (R : List (Addr × Obj)) s (Q' : α → Shared → Prop), Sim C R m H s → (∀ v H' s', Sim C R m H' s' → Q (r v) H' → Q' v s') → wpAny (model C.prog C.w) C.A t Q' C.E s
noncomputable def TV (C : Cx) (m : Loc) (H : PH) (t : Sem Value) (Q : PV → PH → Prop) : Prop := T C m H abs t Q
noncomputable def TB (C : Cx) (m : Loc) (H : PH) (t : Sem Bool) (Q : Bool → PH → Prop) : Prop := T C m H id t Q
noncomputable def Ev (C : Cx) (e : Expr) (m : Loc) (H : PH) (Q : PV → PH → Prop) : Prop := TV C m H (eval e C.env) Q
noncomputable def Te (C : Cx) (e : Expr) (m : Loc) (H : PH) (Q : Bool → PH → Prop) : Prop := TB C m H (isTrue e C.env (eval e C.env)) Q

theorem T.bind {α β γ δ : Type} {C : Cx} {m : Loc} {H : PH} {r : α → β} {r' : γ → δ} {t : Sem α} {f : α → Sem γ} {Q : δ → PH → Prop}
    (h : T C m H r t (fun b H1 => ∀ a, r a = b → T C m H1 r' (f a) Q)) : T C m H r' (t >>= f) Q :=
  fun R s Q' S hQ => wpAny_bind (h _ s _ S fun v H1 s1 S1 q => q v rfl _ s1 Q' S1 hQ)
theorem T.mono {α β : Type} {C : Cx} {m : Loc} {H : PH} {r : α → β} {t : Sem α} {Q Q₂ : β → PH → Prop} (h : T C m H r t Q) (hq : ∀ b H1, Q b H1 → Q₂ b H1) : T C m H r t Q₂ :=
  fun R s Q' S hQ => h _ s Q' S fun v H1 s1 S1 q => hQ v H1 s1 S1 (hq _ _ q)
theorem T.pure {α β : Type} {C : Cx} {m : Loc} {H : PH} {r : α → β} {a : α} {Q : β → PH → Prop} (h : Q (r a) H) : T C m H r (Pure.pure a) Q :=
  fun _ _ _ S hQ => wpAny_pure (hQ _ _ _ S h)

section ops
variable {C : Cx} {m : Loc} {H : PH} {Q : PV → PH → Prop} {k : Nat} {pos : Pos}
theorem ev_int {i : Int} (h : Q (.int i) H) : Ev C (.Constant (.int i) k pos) m H Q := fun _ _ _ S hQ => wpAny_Constant_int (hQ _ _ _ (S.toks _) h)
theorem ev_str {x : Str} (h : Q (.str x.cps.toList) H) : Ev C (.Constant (.str x) k pos) m H Q := fun _ _ _ S hQ => wpAny_Constant_str (hQ _ _ _ (S.toks _) h)
theorem ev_none (h : Q .none H) : Ev C (.Constant .none k pos) m H Q := fun _ _ _ S hQ => wpAny_Constant_none (hQ _ _ _ S h)
theorem ev_bool {b : Bool} (h : Q (.bool b) H) : Ev C (.Constant (.bool b) k pos) m H Q := fun _ _ _ S hQ => wpAny_Constant_bool (hQ _ _ _ S h)
theorem ev_bytes {b : List UInt8} (h : Q (.bytes b) H) : Ev C (.Constant (.bytes b) k pos) m H Q := fun R s Q' S hQ => by
  show wpAny (model C.prog C.w) C.A (mkTextBytes b.toArray) Q' C.E s
  exact wpAny_mkTextBytes (hQ _ _ _ (S.toks _) h)
end ops

theorem lookup_of_get {l : List (Str × NameKind)} (hn : (l.map (·.1)).Nodup) {i : Nat} {x : Str} {k : NameKind} (h : l[i]? = some (x, k)) : l.lookup x = some k := by
  induction l generalizing i with
  | nil => simp at h
  | cons p r ih =>
    obtain ⟨y, k'⟩ := p
    cases i with
    | zero =>
      simp at h
      obtain ⟨rfl, rfl⟩ := h
      simp [List.lookup]
    | succ i =>
      simp at h
      have hmem : x ∈ r.map (·.1) := List.mem_map.mpr ⟨(x, k), List.mem_of_getElem? h, rfl⟩
      rw [List.map_cons, List.nodup_cons] at hn
      have hne : ¬ x = y := fun e => hn.1 (e ▸ hmem)
      rw [List.lookup_cons, beq_false_of_ne hne]
      exact ih hn.2 h
theorem get_inj {l : List (Str × NameKind)} (hn : (l.map (·.1)).Nodup) {i j : Nat} {x : Str} {k k' : NameKind} (h : l[i]? = some (x, k)) (h' : l[j]? = some (x, k')) : i = j := by
  have e1 : (l.map (·.1))[i]? = some x := by simp [h]
  have e2 : (l.map (·.1))[j]? = some x := by simp [h']
  have hi := (List.getElem?_eq_some_iff.mp e1).1
  exact (List.getElem?_inj hi hn).mp (e1.trans e2.symm)

section names
variable {C : Cx} {m : Loc} {H : PH} {Q : PV → PH → Prop} {x : Str} {pos : Pos}
theorem ev_local (O : C.Ok) {i : Nat} {v : PV} (hs : C.env.scope.names[i]? = some (x, NameKind.local)) (hm : m[i]? = some (some v)) (h : Q v H)
    (hd : (x == ("__debug__" : Str)) = false := by decide) : Ev C (.Name x pos) m H Q := by
  rintro R s Q' ⟨mr, news, S⟩ hQ
  obtain ⟨w, hw, rfl⟩ := S.loc _ _ _ hs hm
  exact wpAny_Name (wpAny_loadName_local O.kind (lookup_of_get O.names hs) S.fr.ns hw (hQ _ _ _ ⟨_, _, S⟩ h)) hd
theorem ev_cell (O : C.Ok) {i : Nat} {v : PV} (hs : C.env.scope.names[i]? = some (x, NameKind.cell)) (hm : m[i]? = some (some v)) (h : Q v H)
    (hd : (x == ("__debug__" : Str)) = false := by decide) : Ev C (.Name x pos) m H Q := by
  rintro R s Q' ⟨mr, news, S⟩ hQ
  obtain ⟨c, o, w, hc, hmem, hdat, rfl⟩ := S.cel _ _ _ _ hs (.inl rfl) hm
  exact wpAny_Name (wpAny_loadName_cell O.kind (lookup_of_get O.names hs) hc ⟨o, (S.nw _ hmem).1, hdat⟩ (hQ _ _ _ ⟨_, _, S⟩ h)) hd
theorem ev_free (O : C.Ok) {i : Nat} {v : PV} (hs : C.env.scope.names[i]? = some (x, NameKind.free)) (hm : m[i]? = some (some v)) (h : Q v H)
    (hd : (x == ("__debug__" : Str)) = false := by decide) (hn : (x == ("__classdict__" : Str)) = false := by decide) : Ev C (.Name x pos) m H Q := by
  rintro R s Q' ⟨mr, news, S⟩ hQ
  obtain ⟨c, o, w, hc, hmem, hdat, rfl⟩ := S.cel _ _ _ _ hs (.inr rfl) hm
  exact wpAny_Name (wpAny_loadName_free O.kind (lookup_of_get O.names hs) hc ⟨o, (S.nw _ hmem).1, hdat⟩ (hQ _ _ _ ⟨_, _, S⟩ h) hn) hd
theorem ev_global (O : C.Ok) {v : Value} (hx : C.env.kindOf x = some .globalImplicit) (e : nsIn C.K mainGlobals x = some (some v)) (h : Q (abs v) H)
    (hd : (x == ("__debug__" : Str)) = false := by decide) : Ev C (.Name x pos) m H Q := by
  rintro R s Q' ⟨mr, news, S⟩ hQ
  exact Name_function_global O.kind hx (loadGlobal_global (O.glob ▸ O.top.g.keeps S.fr.keep) (mg_of O.kin O.top.g e) (hQ _ _ _ ⟨_, _, S⟩ h)) hd
theorem ev_builtin (O : C.Ok) {v : Value} (hx : C.env.kindOf x = some .globalImplicit) (e : nsIn C.K mainGlobals x = some none) (hv : bootBuiltins x = some v) (hn : x ≠ "__name__") (h : Q (abs v) H)
    (hd : (x == ("__debug__" : Str)) = false := by decide) : Ev C (.Name x pos) m H Q := by
  rintro R s Q' ⟨mr, news, S⟩ hQ
  exact Name_function_global O.kind hx (loadGlobal_builtin (O.glob ▸ O.top.g.keeps S.fr.keep) (mg_none_of O.kin O.top.g e) (O.blt ▸ O.top.b.keeps S.fr.keep) ((O.top.builtins x hn).trans hv) (hQ _ _ _ ⟨_, _, S⟩ h)) hd
end names
end Mine
end
section
open PySem PySem.W PySem.Calls PySem.Spec PyProof.Rows
set_option Elab.async false
set_option maxRecDepth 100000
set_option linter.unusedVariables false
namespace Mine

inductive FL where | next | brk | cont | ret (v : PV)
noncomputable def absF : Flow → FL
  | .next => .next | .brk => .brk | .cont => .cont | .ret v => .ret (abs v)
theorem absF_next {f : Flow} (h : absF f = .next) : f = .next := by cases f <;> simp [absF] at h ⊢

noncomputable def Ex (C : Cx) (t : Sem Flow) (m : Loc) (H : PH) (Q : FL → Loc → PH → Prop) : Prop :=
  ∀ (R : List (Addr × Obj)) s (Q' : Flow → Shared → Prop), Sim C R m H s → (∀ f m' H' s', Sim C R m' H' s' → Q (absF f) m' H' → Q' f s') → wpAny (model C.prog C.w) C.A t Q' C.E s
noncomputable def Exs (C : Cx) (b : List Stmt) (m : Loc) (H : PH) (Q : FL → Loc → PH → Prop) : Prop := Ex C (execs b C.env) m H Q
noncomputable def Ex1 (C : Cx) (b : Stmt) (m : Loc) (H : PH) (Q : FL → Loc → PH → Prop) : Prop := Ex C (exec b C.env) m H Q

theorem Ex.mono {C : Cx} {t : Sem Flow} {m : Loc} {H : PH} {Q Q₂ : FL → Loc → PH → Prop} (h : Ex C t m H Q) (hq : ∀ f m1 H1, Q f m1 H1 → Q₂ f m1 H1) : Ex C t m H Q₂ :=
  fun R s Q' S hQ => h _ s Q' S fun f m1 H1 s1 S1 q => hQ f m1 H1 s1 S1 (hq _ _ _ q)

/-- behind a statement: the rest, or out -/
noncomputable def Sq (C : Cx) (rest : List Stmt) (Q : FL → Loc → PH → Prop) : FL → Loc → PH → Prop
  | .next, m, H => Exs C rest m H Q
  | f, m, H => Q f m H

section
variable {C : Cx} {m : Loc} {H : PH} {Q : FL → Loc → PH → Prop} {st : Stmt} {rest body orelse : List Stmt} {e test iter value : Expr} {pos : Pos}
theorem exs_nil (h : Q .next m H) : Exs C [] m H Q := fun _ _ _ S hQ => wpAny_execs_nil (hQ _ _ _ _ S h)
theorem exs_cons (h : Ex1 C st m H (Sq C rest Q)) : Exs C (st :: rest) m H Q := fun R s Q' S hQ =>
  wpAny_execs_cons (h _ s _ S fun f m1 H1 s1 S1 q => by
    cases f with
    | next => exact q _ s1 Q' S1 hQ
    | brk => exact hQ _ _ _ _ S1 q
    | cont => exact hQ _ _ _ _ S1 q
    | ret v => exact hQ _ _ _ _ S1 q)

theorem exs_letm {M : Loc} (h : let m : Loc := M; Exs C rest m H Q) : Exs C rest M H Q := h
noncomputable abbrev RetQ (m : Loc) (Q : FL → Loc → PH → Prop) : PV → PH → Prop := fun v H1 => Q (.ret v) m H1
noncomputable abbrev IfQ (C : Cx) (body orelse : List Stmt) (m : Loc) (Q : FL → Loc → PH → Prop) : Bool → PH → Prop := fun b H1 => if b = true then Exs C body m H1 Q else Exs C orelse m H1 Q
noncomputable abbrev AsgQ (m : Loc) (i : Nat) (Q : FL → Loc → PH → Prop) : PV → PH → Prop := fun v H1 => Q .next (m.set i (some v)) H1
theorem exs_last (h : Ex1 C st m H Q) : Exs C [st] m H Q := exs_cons (Ex.mono h fun f m1 H1 q => by
  cases f with
  | next => exact exs_nil q
  | _ => exact q)

theorem ex_pass (h : Q .next m H) : Ex1 C (.Pass pos) m H Q := fun _ _ _ S hQ => wpAny_Pass (hQ _ _ _ _ S h)
theorem ex_break (h : Q .brk m H) : Ex1 C (.Break pos) m H Q := fun _ _ _ S hQ => wpAny_Break (hQ _ _ _ _ S h)
theorem ex_continue (h : Q .cont m H) : Ex1 C (.Continue pos) m H Q := fun _ _ _ S hQ => wpAny_Continue (hQ _ _ _ _ S h)
theorem ex_return (h : Ev C e m H (RetQ m Q)) : Ex1 C (.Return (some e) pos) m H Q :=
  fun R s Q' S hQ => wpAny_Return_some (h _ s _ S fun v H1 s1 S1 q => hQ _ _ _ _ S1 q)
theorem ex_if (h : Te C test m H (IfQ C body orelse m Q)) : Ex1 C (.If test body orelse pos) m H Q :=
  fun R s Q' S hQ => wpAny_If (h _ s _ S fun b H1 s1 S1 q => by
    cases b with
    | true => exact q _ s1 Q' S1 hQ
    | false => exact (show Exs C orelse m H1 Q from q) _ s1 Q' S1 hQ)

theorem get_set {m : Loc} {i j : Nat} {v : Option PV} {u : Option PV} (h : (m.set i v)[j]? = some u) : (j = i ∧ u = v) ∨ (j ≠ i ∧ m[j]? = some u) := by
  by_cases e : j = i
  · subst e
    rw [List.getElem?_set] at h
    simp at h
    exact .inl ⟨rfl, h.2.symm⟩
  · rw [List.getElem?_set_ne (Ne.symm e)] at h
    exact .inr ⟨e, h⟩

theorem store_local (O : C.Ok) {i : Nat} {x : Str} {w : Value} {s : Shared} {Q' : Unit → Shared → Prop} (hs : C.env.scope.names[i]? = some (x, NameKind.local)) (S : Sim C R m H s)
    (hQ : ∀ s', Sim C R (m.set i (some (abs w))) H s' → Q' () s') : wpAny (model C.prog C.w) C.A (storeName C.env x w) Q' C.E s := by
  obtain ⟨mr, news, S⟩ := S
  refine wpAny_storeName_local (lookup_of_get O.names hs) S.fr.ns (fun h' hn hsb => hQ _ ⟨fun y => if y = x then some w else mr y, news, ?_⟩) (by rw [O.kind]; rfl)
  obtain ⟨h, t, rfl⟩ := S.st
  refine ⟨⟨h', t + 1, rfl⟩, S.fr.set hn hsb, S.nw.set hsb, S.rest, fun j y v hj hm => ?_, fun j y k v hj hk hm => ?_, S.celS, S.view⟩
  · rcases get_set hm with ⟨rfl, e⟩ | ⟨hne, hm'⟩
    · rw [hs] at hj
      cases hj
      cases e
      exact ⟨w, by simp, rfl⟩
    · obtain ⟨u, hu, hv⟩ := S.loc _ _ _ hj hm'
      refine ⟨u, ?_, hv⟩
      have : y ≠ x := fun e => hne (get_inj O.names (e ▸ hj) hs)
      simp [this, hu]
  · rcases get_set hm with ⟨rfl, e⟩ | ⟨hne, hm'⟩
    · rw [hs] at hj
      cases hj
      rcases hk with hk | hk <;> cases hk
    · exact S.cel _ _ _ _ hj hk hm'

theorem news_one {h₀ h h' : Heap} {L c : Addr} {news : List (Addr × Obj)} {o o' : Obj} (N : News h₀ L h news) (hm : (c, o) ∈ news) (hs : Heap.SameBut c h h') (ho : h'.get? c = some o') :
    News h₀ L h' (news.map fun p => if p.1 = c then (c, o') else p) := by
  intro p hp
  obtain ⟨q, hq, rfl⟩ := List.mem_map.mp hp
  by_cases e : q.1 = c
  · rw [if_pos e]
    exact ⟨ho, (N _ hm).2.1, (N _ hm).2.2⟩
  · rw [if_neg e]
    exact ⟨(hs.2 _ e).trans (N _ hq).1, (N _ hq).2⟩
theorem mem_one {c : Addr} {news : List (Addr × Obj)} {o o' : Obj} (hm : (c, o) ∈ news) : (c, o') ∈ news.map fun p => if p.1 = c then (c, o') else p :=
  List.mem_map.mpr ⟨_, hm, by simp⟩
theorem mem_other {c a : Addr} {news : List (Addr × Obj)} {o o' : Obj} (hm : (a, o) ∈ news) (hne : a ≠ c) : (a, o) ∈ news.map fun p => if p.1 = c then (c, o') else p :=
  List.mem_map.mpr ⟨_, hm, by simp [hne]⟩

theorem store_cell (O : C.Ok) {i : Nat} {x : Str} {c : Addr} {w : Value} {s : Shared} {Q' : Unit → Shared → Prop} (hs : C.env.scope.names[i]? = some (x, NameKind.cell)) (hc : C.env.cells.lookup x = some c) (S : Sim C R m H s)
    (hQ : ∀ s', Sim C R (m.set i (some (abs w))) H s' → Q' () s') : wpAny (model C.prog C.w) C.A (storeName C.env x w) Q' C.E s := by
  obtain ⟨mr, news, S⟩ := S
  obtain ⟨hHc, hrc, o, w₀, hmem, hd⟩ := S.celS _ _ hc
  refine wpAny_storeName_cell O.kind (lookup_of_get O.names hs) hc ⟨o, (S.nw _ hmem).1, hd⟩ fun h' ⟨o', ho', hd'⟩ hsb => hQ _ ⟨mr, news.map fun p => if p.1 = c then (c, o') else p, ?_⟩
  obtain ⟨h, t, rfl⟩ := S.st
  have hcL := (S.nw _ hmem).2.1
  refine ⟨⟨h', t, rfl⟩, ⟨S.fr.ns.sameBut hsb (Ne.symm hcL), fun b ob e => (hsb.2 b fun q => ?_).trans (S.fr.keep b ob e), S.fr.above⟩, news_one S.nw hmem hsb ho', fun p hp => ?_, fun j y v hj hm => ?_, fun j y k v hj hk hm => ?_, fun y d hd₂ => ?_, fun a po ha => ?_⟩
  · rw [q, (S.nw _ hmem).2.2] at e; cases e
  · exact ⟨mem_other (S.rest p hp).1 (hrc p hp), (S.rest p hp).2⟩
  · rcases get_set hm with ⟨rfl, e⟩ | ⟨hne, hm'⟩
    · rw [hs] at hj; cases hj
    · exact S.loc _ _ _ hj hm'
  · rcases get_set hm with ⟨rfl, e⟩ | ⟨hne, hm'⟩
    · rw [hs] at hj
      cases hj
      cases e
      exact ⟨c, _, w, hc, mem_one hmem, hd', rfl⟩
    · obtain ⟨c₂, o₂, w₂, e1, e2, e3, e4⟩ := S.cel _ _ _ _ hj hk hm'
      refine ⟨c₂, o₂, w₂, e1, mem_other e2 fun q => hne ?_, e3, e4⟩
      have : y = x := O.inj _ _ _ e1 (q ▸ hc)
      exact get_inj O.names (this ▸ hj) hs
  · obtain ⟨e1, e2, o₂, w₂, e3, e4⟩ := S.celS _ _ hd₂
    refine ⟨e1, e2, ?_⟩
    by_cases q : d = c
    · subst q
      exact ⟨_, _, mem_one hmem, hd'⟩
    · exact ⟨o₂, w₂, mem_other e3 q, e4⟩
  · obtain ⟨o₂, e1, e2⟩ := S.view _ _ ha
    refine ⟨o₂, mem_other e1 fun q => ?_, e2⟩
    rw [q, hHc] at ha; cases ha

/-- a name that may be stored: its place in the table of names -/
noncomputable def Slot' (C : Cx) (x : Str) (i : Nat) : Prop := C.env.scope.names[i]? = some (x, NameKind.local) ∨ (C.env.scope.names[i]? = some (x, NameKind.cell) ∧ ∃ c, C.env.cells.lookup x = some c)
theorem store_any (O : C.Ok) {i : Nat} {x : Str} {w : Value} {s : Shared} {Q' : Unit → Shared → Prop} (hs : Slot' C x i) (S : Sim C R m H s)
    (hQ : ∀ s', Sim C R (m.set i (some (abs w))) H s' → Q' () s') : wpAny (model C.prog C.w) C.A (storeName C.env x w) Q' C.E s :=
  hs.elim (fun h => store_local O h S hQ) fun ⟨h, _, hc⟩ => store_cell O h hc S hQ

theorem ex_assign (O : C.Ok) {i : Nat} {x : Str} {px : Pos} (hx : Slot' C x i) (h : Ev C value m H (AsgQ m i Q))
    (hs : swapsWith value (some (.Name x px)) pos.line C.env = pure false := by rfl) : Ex1 C (.Assign [.Name x px] value pos) m H Q :=
  fun R s Q' S hQ => wpAny_Assign_Name (h _ s _ S fun v H1 s1 S1 q => store_any O hx S1 fun s2 S2 => hQ _ _ _ _ S2 q) hs

noncomputable abbrev WhileQ (I : Nat → Loc → PH → Prop) (n : Nat) (Q : FL → Loc → PH → Prop) (f : FL) (m2 : Loc) (H2 : PH) : Prop := match f with
  | .next | .cont => ∃ n', n' < n ∧ I n' m2 H2
  | .brk => Q .next m2 H2
  | .ret v => Q (.ret v) m2 H2
noncomputable abbrev WhlQ (C : Cx) (body orelse : List Stmt) (m : Loc) (I : Nat → Loc → PH → Prop) (n : Nat) (Q : FL → Loc → PH → Prop) : Bool → PH → Prop := fun b H1 => if b = true then Exs C body m H1 (WhileQ I n Q) else Exs C orelse m H1 Q
/-- the while loop, by an invariant that falls -/
theorem ex_while (O : C.Ok) (I : Nat → Loc → PH → Prop) (n : Nat) (h0 : I n m H)
    (turn : ∀ n m H, I n m H → Te C test m H (WhlQ C body orelse m I n Q)) : Ex1 C (.While test body orelse pos) m H Q := by
  intro R s Q' S hQ
  refine whl_start 0 ?_
  have key : ∀ n m H s, I n m H → Sim C R m H s → WhlRest C.prog C.w C.A C.E C.env test body orelse Q' 0 s := by
    intro n
    induction n using Nat.strongRecOn with
    | ind n ih =>
      intro m H s hI S
      refine (show ∀ k k' s, WhlRest C.prog C.w C.A C.E C.env test body orelse Q' k s → WhlRest C.prog C.w C.A C.E C.env test body orelse Q' k' s from fun _ _ _ h => h) 1 0 s ?_
      refine whl_turn O.passes (turn n m H hI _ s _ S fun b H1 s1 S1 q => ?_)
      cases b with
      | true =>
        refine WhlIf.yes rfl ((show Exs C body m H1 _ from q) _ s1 _ S1 fun f m2 H2 s2 S2 q2 => ?_)
        cases f with
        | next => obtain ⟨n', hn, hI'⟩ := q2; exact ih n' hn m2 H2 s2 hI' S2
        | cont => obtain ⟨n', hn, hI'⟩ := q2; exact ih n' hn m2 H2 s2 hI' S2
        | brk => exact hQ _ _ _ _ S2 q2
        | ret v => exact hQ _ _ _ _ S2 q2
      | false =>
        exact WhlIf.no rfl ((show Exs C orelse m H1 Q from q) _ s1 Q' S1 hQ)
  exact key n m H s h0 S
end
end Mine
end
section
open PySem PySem.W PySem.Calls PySem.Spec PyProof.Rows
set_option Elab.async false
set_option maxRecDepth 100000
set_option linter.unusedVariables false
namespace Mine

theorem wpAny_operate {M : Model} {A : Around} {E : Value → Shared → Prop} {s : Shared} {vs : List Value} {t : Sem Value} {Q : Value → Shared → Prop} (h : wpAny M A t Q E s) : wpAny M A (operate vs t) Q E s :=
  fun Γ p hΓ => by rw [Sem.wp_operate]; exact h Γ p hΓ

/-- two values under an operation -/
noncomputable def Bin (C : Cx) (m : Loc) (f : Value → Value → Sem Value) (a b : PV) (H : PH) (Q : PV → PH → Prop) : Prop :=
  ∀ v w, abs v = a → abs w = b → TV C m H (f v w) Q
noncomputable def Cmp (C : Cx) (m : Loc) (op : CmpOp) (a b : PV) (H : PH) (Q : Bool → PH → Prop) : Prop :=
  ∀ v w, abs v = a → abs w = b → TV C m H (compareOp op v w) (fun c H1 => ∃ x, c = .bool x ∧ Q x H1)
noncomputable def Un (C : Cx) (m : Loc) (op : UnaryOp) (a : PV) (H : PH) (Q : PV → PH → Prop) : Prop :=
  ∀ v, abs v = a → TV C m H (unaryOp op v) Q
noncomputable def Tr (C : Cx) (m : Loc) (a : PV) (H : PH) (Q : Bool → PH → Prop) : Prop :=
  ∀ v, abs v = a → TB C m H (truthy v) Q

noncomputable abbrev BinQ2 (C : Cx) (m : Loc) (op : Operator) (a : PV) (Q : PV → PH → Prop) : PV → PH → Prop := fun b H2 => Bin C m (binaryOp op) a b H2 Q
noncomputable abbrev BinQ (C : Cx) (r : Expr) (m : Loc) (op : Operator) (Q : PV → PH → Prop) : PV → PH → Prop := fun a H1 => Ev C r m H1 (BinQ2 C m op a Q)
noncomputable abbrev UnQ (C : Cx) (m : Loc) (uop : UnaryOp) (Q : PV → PH → Prop) : PV → PH → Prop := fun a H1 => Un C m uop a H1 Q
noncomputable abbrev BoolQ (Q : PV → PH → Prop) : Bool → PH → Prop := fun x => Q (.bool x)
noncomputable abbrev NotQ (QB : Bool → PH → Prop) : Bool → PH → Prop := fun b => QB (!b)
noncomputable abbrev CmpQ2 (C : Cx) (m : Loc) (cop : CmpOp) (a : PV) (QB : Bool → PH → Prop) : PV → PH → Prop := fun b H2 => Cmp C m cop a b H2 QB
noncomputable abbrev CmpQ (C : Cx) (r : Expr) (m : Loc) (cop : CmpOp) (QB : Bool → PH → Prop) : PV → PH → Prop := fun a H1 => Ev C r m H1 (CmpQ2 C m cop a QB)
noncomputable abbrev IfEQ (C : Cx) (body orelse : Expr) (m : Loc) (Q : PV → PH → Prop) : Bool → PH → Prop := fun b H1 => if b = true then Ev C body m H1 Q else Ev C orelse m H1 Q
noncomputable abbrev TrQ (C : Cx) (m : Loc) (QB : Bool → PH → Prop) : PV → PH → Prop := fun a H1 => Tr C m a H1 QB
noncomputable abbrev ChQ3 (C : Cx) (r2 : Expr) (m : Loc) (cop2 : CmpOp) (b : PV) (QB : Bool → PH → Prop) : Bool → PH → Prop := fun x H3 => if x = true then Ev C r2 m H3 (CmpQ2 C m cop2 b QB) else QB false H3
noncomputable abbrev ChQ2 (C : Cx) (r2 : Expr) (m : Loc) (cop cop2 : CmpOp) (a : PV) (QB : Bool → PH → Prop) : PV → PH → Prop := fun b H2 => Cmp C m cop a b H2 (ChQ3 C r2 m cop2 b QB)
noncomputable abbrev ChQ (C : Cx) (r r2 : Expr) (m : Loc) (cop cop2 : CmpOp) (QB : Bool → PH → Prop) : PV → PH → Prop := fun a H1 => Ev C r m H1 (ChQ2 C r2 m cop cop2 a QB)
section
variable {C : Cx} {m : Loc} {H : PH} {Q : PV → PH → Prop} {QB : Bool → PH → Prop} {l r e test body orelse : Expr} {op : Operator} {cop cop2 : CmpOp} {uop : UnaryOp} {pos : Pos}
theorem ev_binop (h : Ev C l m H (BinQ C r m op Q)) : Ev C (.BinOp l op r pos) m H Q :=
  fun R s Q' S hQ => wpAny_BinOp (h _ s _ S fun a H1 s1 S1 q1 => q1 _ s1 _ S1 fun b H2 s2 S2 q2 => q2 a b rfl rfl _ s2 Q' S2 hQ)
theorem ev_unary (h : Ev C e m H (UnQ C m uop Q)) : Ev C (.UnaryOp uop e pos) m H Q :=
  fun R s Q' S hQ => wpAny_UnaryOp (h _ s _ S fun a H1 s1 S1 q1 => q1 a rfl _ s1 Q' S1 hQ)
theorem ev_cmp (h : Ev C l m H (CmpQ C r m cop (BoolQ Q))) (hm : behindInMarks cop r = false := by with_unfolding_all rfl) :
    Ev C (.Compare l [cop] [r] pos) m H Q :=
  fun R s Q' S hQ => wpAny_Compare1 (h _ s _ S fun a H1 s1 S1 q1 => q1 _ s1 _ S1 fun b H2 s2 S2 q2 => q2 a b rfl rfl _ s2 Q' S2 fun v H3 s3 S3 q3 => by
    obtain ⟨x, e, q⟩ := q3
    exact hQ _ _ _ S3 (e ▸ q)) hm
theorem te_cmp (h : Ev C l m H (CmpQ C r m cop QB)) (hm : behindInMarks cop r = false := by with_unfolding_all rfl) :
    Te C (.Compare l [cop] [r] pos) m H QB :=
  fun R s Q' S hQ => wpAny_isTrue_Compare1 (h _ s _ S fun a H1 s1 S1 q1 => q1 _ s1 _ S1 fun b H2 s2 S2 q2 => q2 a b rfl rfl _ s2 _ S2 fun v H3 s3 S3 q3 => by
    obtain ⟨x, e, q⟩ := q3
    rw [abs_bool e]
    exact wpAny_truthy_bool (hQ _ _ _ S3 q)) hm
theorem te_not (h : Te C e m H (NotQ QB)) : Te C (.UnaryOp .Not e pos) m H QB :=
  fun R s Q' S hQ => wpAny_isTrue_Not (h _ s _ S fun b H1 s1 S1 q => hQ _ _ _ S1 q)
theorem ev_ifexp (h : Te C test m H (IfEQ C body orelse m Q)) : Ev C (.IfExp test body orelse pos) m H Q :=
  fun R s Q' S hQ => wpAny_IfExp (h _ s _ S fun b H1 s1 S1 q => by
    cases b with
    | true => exact q _ s1 Q' S1 hQ
    | false => exact (show Ev C orelse m H1 Q from q) _ s1 Q' S1 hQ)
theorem te_val (h : Ev C e m H (TrQ C m QB)) (he : ∀ whole, isTrue e C.env whole = (do let v ← whole; standAt e.pos; holding [v] (truthy v)) := by intro _; rfl) : Te C e m H QB :=
  fun R s Q' S hQ => wpAny_isTrue_value (h _ s _ S fun a H1 s1 S1 q1 => q1 a rfl _ s1 Q' S1 hQ) (he _)

/-- and, or, in a test -/
noncomputable def TAnd (C : Cx) (m : Loc) (QB : Bool → PH → Prop) : List Expr → PH → Prop
  | [], H => QB true H
  | e :: r, H => Te C e m H (fun b H1 => if b = true then TAnd C m QB r H1 else QB false H1)
noncomputable def TOr (C : Cx) (m : Loc) (QB : Bool → PH → Prop) : List Expr → PH → Prop
  | [], H => QB false H
  | e :: r, H => Te C e m H (fun b H1 => if b = true then QB true H1 else TOr C m QB r H1)
theorem te_and {es : List Expr} (h : TAnd C m QB es H) : Te C (.BoolOp .And es pos) m H QB := by
  intro R s Q' S hQ
  refine wpAny_isTrue_BoolOp ?_
  induction es generalizing H s with
  | nil => exact wpAny_allTrue_And_nil (hQ _ _ _ S h)
  | cons e r ih =>
    refine wpAny_allTrue_And_cons ((show Te C e m H _ from h) _ s _ S fun b H1 s1 S1 q => ?_)
    cases b with
    | true => exact ih (show TAnd C m QB r H1 from q) s1 S1
    | false => exact hQ _ _ _ S1 (show QB false H1 from q)
theorem te_or {es : List Expr} (h : TOr C m QB es H) : Te C (.BoolOp .Or es pos) m H QB := by
  intro R s Q' S hQ
  refine wpAny_isTrue_BoolOp ?_
  induction es generalizing H s with
  | nil => exact wpAny_allTrue_Or_nil (hQ _ _ _ S h)
  | cons e r ih =>
    refine wpAny_allTrue_Or_cons ((show Te C e m H _ from h) _ s _ S fun b H1 s1 S1 q => ?_)
    cases b with
    | true => exact hQ _ _ _ S1 (show QB true H1 from q)
    | false => exact ih (show TOr C m QB r H1 from q) s1 S1
theorem te_chain {r2 : Expr} (h : Ev C l m H (ChQ C r r2 m cop cop2 QB))
    (hm : behindInMarks cop r = false := by with_unfolding_all rfl) (hm2 : behindInMarks cop2 r2 = false := by with_unfolding_all rfl) : Te C (.Compare l [cop, cop2] [r, r2] pos) m H QB := by
  intro R s Q' S hQ
  have e0 : isTrue (.Compare l [cop, cop2] [r, r2] pos) C.env (eval (.Compare l [cop, cop2] [r, r2] pos) C.env) = (do
      let left ← eval l C.env
      let rv ← holding [left] (eval r C.env)
      standAt pos
      let c ← holding [left, rv] (compareOp cop left rv)
      release [left, rv] [c]
      if ← holding [c, rv] (truthy c) then (do
        let rv2 ← holding [rv] (markedBehindIn cop2 r2 (eval r2 C.env))
        standAt pos
        let c ← operate [rv, rv2] (compareOp cop2 rv rv2)
        holding [c] (truthy c)) else pure false) := rfl
  rw [e0, markedBehindIn_of_false hm2]
  refine wpAny_bind (h _ s _ S fun a H1 s1 S1 q1 => wpAny_bind (wpAny_holding (q1 _ s1 _ S1 fun b H2 s2 S2 q2 => wpAny_bind (wpAny_standAt (wpAny_bind (wpAny_holding (q2 a b rfl rfl _ s2 _ S2 fun c H3 s3 S3 q3 => ?_)))))))
  refine wpAny_bind (wpAny_release (wpAny_bind (wpAny_holding ?_)))
  obtain ⟨x, e, q⟩ := q3
  rw [abs_bool e]
  refine wpAny_truthy_bool ?_
  cases x with
  | false => exact wpAny_pure (hQ _ _ _ S3 (show QB false H3 from q))
  | true =>
    refine wpAny_bind (wpAny_holding ((show Ev C r2 m H3 _ from q) _ s3 _ S3 fun c2 H4 s4 S4 q4 => wpAny_bind (wpAny_standAt (wpAny_bind ?_))))
    refine wpAny_operate (q4 b c2 rfl rfl _ s4 _ S4 fun v H5 s5 S5 q5 => ?_)
    obtain ⟨x2, e2, q5⟩ := q5
    rw [abs_bool e2]
    exact wpAny_holding (wpAny_truthy_bool (hQ _ _ _ S5 q5))
end

/-- arguments -/
noncomputable def noStar : Expr → Bool
  | .Starred .. => false
  | _ => true
noncomputable def Eas (C : Cx) (m : Loc) : List Expr → PH → (List PV → PH → Prop) → Prop
  | [], H, Q => Q [] H
  | e :: r, H, Q => Ev C e m H (fun v H1 => Eas C m r H1 (fun vs H2 => Q (v :: vs) H2))
noncomputable abbrev ConsQ (v : PV) (Q : List PV → PH → Prop) : List PV → PH → Prop := fun vs H2 => Q (v :: vs) H2
noncomputable abbrev EasQ (C : Cx) (m : Loc) (r : List Expr) (Q : List PV → PH → Prop) : PV → PH → Prop := fun v H1 => Eas C m r H1 (ConsQ v Q)
theorem starEach_of {e : Expr} {r : List Expr} {env : Env} (h : noStar e = true) : starEach (e :: r) env = (false, eval e env) :: starEach r env := by
  cases e <;> first | rfl | cases h
section
variable {C : Cx} {m : Loc} {H : PH} {pos : Pos}
theorem eas_cons {e : Expr} {r : List Expr} {Q : List PV → PH → Prop} (h : Ev C e m H (EasQ C m r Q)) : Eas C m (e :: r) H Q := h
theorem eas_nil {Q : List PV → PH → Prop} (h : Q [] H) : Eas C m [] H Q := h
theorem eas_spliced {es : List Expr} {Q : List PV → PH → Prop} (hs : es.all noStar = true) (h : Eas C m es H Q) : T C m H (List.map abs) (spliced (backTo pos (starEach es C.env))) Q := by
  induction es generalizing H Q with
  | nil => exact T.pure h
  | cons e r ih =>
    rw [List.all_cons, Bool.and_eq_true] at hs
    rw [starEach_of hs.1]
    intro R s Q' S hQ
    exact spliced_cons (h _ s _ S fun v H1 s1 S1 q => ih hs.2 q _ s1 _ S1 fun vs H2 s2 S2 q2 => hQ _ _ _ S2 q2)
theorem eas_plain {es : List Expr} {env : Env} (hs : es.all noStar = true) : (backTo pos (starEach es env)).any (·.1) = false := by
  induction es with
  | nil => rfl
  | cons e r ih =>
    rw [List.all_cons, Bool.and_eq_true] at hs
    rw [starEach_of hs.1]
    exact ih hs.2
theorem eas_first {es : List Expr} {env : Env} {x : Sem Value} (hs : es.all noStar = true) : backTo pos (starEach es env) ≠ [(true, x)] := by
  cases es with
  | nil => intro h; cases h
  | cons e r =>
    rw [List.all_cons, Bool.and_eq_true] at hs
    rw [starEach_of hs.1]
    intro h; cases h
end

/-- a call of a value -/
noncomputable def Ca (C : Cx) (m : Loc) (f : PV) (args : List PV) (kw : List (Str × PV)) (H : PH) (Q : PV → PH → Prop) : Prop :=
  ∀ f' args' kw', abs f' = f → args'.map abs = args → kw'.map (fun p => (p.1, abs p.2)) = kw → TV C m H (call f' args' kw') Q
/-- how a callee keeps its arguments: a frame or the machine -/
noncomputable def Kp (C : Cx) (f : PV) : Prop := ∀ f' s, abs f' = f → (∃ R m H, Sim C R m H s) → ∃ k, (k = Keeper.frame ∨ k = Keeper.machine ∨ k = Keeper.boundFrame) ∧ Looks (model C.prog C.w) s.heap (keeperOf f') k
theorem kp_type {C : Cx} {n : String} : Kp C (.type n) := fun f' s h _ => ⟨.machine, .inr (.inl rfl), by rw [abs_type h]; exact Looks.of_pure rfl⟩
theorem kp_builtin {C : Cx} {n : String} : Kp C (.builtin n) := fun f' s h _ => ⟨.machine, .inr (.inl rfl), by rw [abs_builtin h]; exact Looks.of_pure rfl⟩
theorem kp_K {C : Cx} (O : C.Ok) {a : Addr} (hk : keepIn C.K (.ref a) = true) : Kp C (.ref a) := fun f' s h ⟨_, _, _, _, _, S⟩ => by
  rw [abs_ref h]
  exact keeps_K hk s.heap (O.kin.keeps S.fr.keep)

section
variable {C : Cx} {m : Loc} {H : PH} {Q : PV → PH → Prop} {pos : Pos}
theorem evalArgs_eas {f : Value} {es : List Expr} {Q : List PV → PH → Prop} (hs : es.all noStar = true) (h : Eas C m es H Q) :
    T C m H (fun a : Args => (a.pos.map abs, a.kw)) (evalArgs f true (backTo pos (starEach es C.env)) []) (fun x H1 => x.2 = [] ∧ Q x.1 H1) := by
  intro R s Q' S hQ
  cases es with
  | nil => exact evalArgs_nil3 (hQ ⟨[], []⟩ _ _ S ⟨rfl, h⟩)
  | cons e r =>
    have hs' := hs
    rw [List.all_cons, Bool.and_eq_true] at hs'
    have sp := eas_spliced (pos := pos) hs h _ s (fun vs s1 => Q' ⟨vs, []⟩ s1) S fun vs H1 s1 S1 q => hQ ⟨vs, []⟩ _ _ S1 ⟨rfl, q⟩
    rw [starEach_of hs'.1] at sp ⊢
    exact evalArgs_plain sp
theorem callWith_eas {f : Value} {first : List Value} {es : List Expr} (hs : es.all noStar = true) (hk : Kp C (abs f))
    (h : Eas C m es H (fun vs H1 => Ca C m (abs f) (first.map abs ++ vs) [] H1 Q)) : TV C m H (callWith pos f first (backTo pos (starEach es C.env)) []) Q := by
  intro R s Q' S hQ
  refine callWith_of (P := fun h => ∃ s', s'.heap = h ∧ ∃ R m H, Sim C R m H s') (by simp [eas_plain hs]) (fun h ⟨s', e, x⟩ => e ▸ hk f s' rfl x) ?_
  refine evalArgs_eas hs h _ s _ S fun a H1 s1 S1 q => ?_
  obtain ⟨e, q⟩ := q
  dsimp only at e q
  refine ⟨⟨s1, rfl, _, _, _, S1⟩, ?_⟩
  rw [e]
  exact q _ _ _ rfl (by simp) rfl _ s1 Q' S1 hQ
noncomputable abbrev CaQ (C : Cx) (m : Loc) (fv : PV) (Q : PV → PH → Prop) : List PV → PH → Prop := fun vs H2 => Ca C m fv vs [] H2 Q
noncomputable abbrev CallQ (C : Cx) (m : Loc) (args : List Expr) (Q : PV → PH → Prop) : PV → PH → Prop := fun fv H1 => Kp C fv ∧ Eas C m args H1 (CaQ C m fv Q)
theorem ev_call {func : Expr} {args : List Expr} (h : Ev C func m H (CallQ C m args Q))
    (he : ∀ env, eval (.Call func args [] pos) env = (do callWith pos (← eval func env) [] (backTo pos (starEach args env)) (backToKw pos (keywordEach [] env))) := by intro _; rfl)
    (hs : args.all noStar = true := by rfl) : Ev C (.Call func args [] pos) m H Q := by
  intro R s Q' S hQ
  rw [he]
  refine wpAny_bind (h _ s _ S fun fv H1 s1 S1 q => ?_)
  exact callWith_eas (first := []) hs q.1 (by simpa using q.2) _ s1 Q' S1 hQ
end
end Mine
end
section
open PySem PySem.W PySem.Calls PySem.Spec PyProof.Rows
set_option Elab.async false
set_option maxRecDepth 100000
set_option linter.unusedVariables false
namespace Mine
theorem bits_of {a : Int} {k : Nat} (h : a.natAbs < 2 ^ k) : Builtin.Int.intBits a ≤ k := intBits_le h
theorem noPy {i j : Int} (hj : j ≠ 0) (hs : j.natAbs < 2 ^ 1000) : Builtin.divisionGoesByPylong i j = false := by
  have h0 : j.natAbs ≠ 0 := fun e => hj (Int.natAbs_eq_zero.mp e)
  exact PyProof.noPylong_of_log2 (Nat.lt_of_lt_of_le ((Nat.log2_lt h0).mpr hs) (by decide))
theorem mulOk {a b : Int} (h : a.natAbs < 2 ^ 64 ∨ b.natAbs < 2 ^ 64) : IntMulOk a b := h.elim (fun h => .of_left (bits_of h)) fun h => .of_right (bits_of h)
section
variable {C : Cx} {m : Loc} {H : PH} {Q : PV → PH → Prop} {QB : Bool → PH → Prop} {i j : Int} {x y : List Nat}
theorem bin_add (h : Q (.int (i + j)) H) : Bin C m (binaryOp .Add) (.int i) (.int j) H Q := by
  intro v w hv hw _ s Q' S hQ
  obtain ⟨t, rfl⟩ := abs_int hv
  obtain ⟨u, rfl⟩ := abs_int hw
  with_reducible refine P.add_int ?kk
  case kk => exact hQ _ _ _ (S.toks _) h
theorem bin_sub (h : Q (.int (i - j)) H) : Bin C m (binaryOp .Sub) (.int i) (.int j) H Q := by
  intro v w hv hw _ s Q' S hQ
  obtain ⟨t, rfl⟩ := abs_int hv
  obtain ⟨u, rfl⟩ := abs_int hw
  with_reducible refine P.sub_int ?kk
  case kk => exact hQ _ _ _ (S.toks _) h
theorem bin_mul (hm : i.natAbs < 2 ^ 64 ∨ j.natAbs < 2 ^ 64) (h : Q (.int (i * j)) H) : Bin C m (binaryOp .Mult) (.int i) (.int j) H Q := by
  intro v w hv hw _ s Q' S hQ
  obtain ⟨t, rfl⟩ := abs_int hv
  obtain ⟨u, rfl⟩ := abs_int hw
  with_reducible refine P.mul_int ?kk (mulOk hm)
  case kk => exact hQ _ _ _ (S.toks _) h
theorem bin_div (hj : j ≠ 0) (hs : j.natAbs < 2 ^ 1000) (h : Q (.int (i.fdiv j)) H) : Bin C m (binaryOp .FloorDiv) (.int i) (.int j) H Q := by
  intro v w hv hw _ s Q' S hQ
  obtain ⟨t, rfl⟩ := abs_int hv
  obtain ⟨u, rfl⟩ := abs_int hw
  with_reducible refine floordiv_int hj ?kk (.inl (noPy hj hs))
  case kk => exact hQ _ _ _ (S.toks _) h
theorem bin_mod (hj : j ≠ 0) (h : Q (.int (i.fmod j)) H) : Bin C m (binaryOp .Mod) (.int i) (.int j) H Q := by
  intro v w hv hw _ s Q' S hQ
  obtain ⟨t, rfl⟩ := abs_int hv
  obtain ⟨u, rfl⟩ := abs_int hw
  with_reducible refine mod_int' hj ?kk
  case kk => exact hQ _ _ _ (S.toks _) h
theorem bin_pow (hj : 0 ≤ j) (hs : (Builtin.Int.intBits i : Int) * j ≤ 2 ^ 27) (h : Q (.int (i ^ j.toNat)) H) : Bin C m (binaryOp .Pow) (.int i) (.int j) H Q := by
  intro v w hv hw _ s Q' S hQ
  obtain ⟨t, rfl⟩ := abs_int hv
  obtain ⟨u, rfl⟩ := abs_int hw
  with_reducible refine pow_int hj hs ?kk
  case kk => exact hQ _ _ _ (S.toks _) h
theorem bin_and (h : Q (.int (Builtin.bitAnd i j)) H) : Bin C m (binaryOp .BitAnd) (.int i) (.int j) H Q := by
  intro v w hv hw _ s Q' S hQ
  obtain ⟨t, rfl⟩ := abs_int hv
  obtain ⟨u, rfl⟩ := abs_int hw
  with_reducible refine and_int ?kk
  case kk => exact hQ _ _ _ (S.toks _) h
theorem bin_or (h : Q (.int (Builtin.bitOr i j)) H) : Bin C m (binaryOp .BitOr) (.int i) (.int j) H Q := by
  intro v w hv hw _ s Q' S hQ
  obtain ⟨t, rfl⟩ := abs_int hv
  obtain ⟨u, rfl⟩ := abs_int hw
  with_reducible refine or_int ?kk
  case kk => exact hQ _ _ _ (S.toks _) h
theorem bin_shl (hj : 0 ≤ j) (hj2 : j ≤ 1000000) (hi : i.natAbs < 2 ^ 64) (h : Q (.int (i * 2 ^ j.toNat)) H) : Bin C m (binaryOp .LShift) (.int i) (.int j) H Q := by
  intro v w hv hw _ s Q' S hQ
  obtain ⟨t, rfl⟩ := abs_int hv
  obtain ⟨u, rfl⟩ := abs_int hw
  with_reducible refine lshift_int_small hj hj2 hi ?kk
  case kk => exact hQ _ _ _ (S.toks _) h
theorem bin_shr (hj : 0 ≤ j) (h : Q (.int (i.fdiv (2 ^ j.toNat))) H) : Bin C m (binaryOp .RShift) (.int i) (.int j) H Q := by
  intro v w hv hw _ s Q' S hQ
  obtain ⟨t, rfl⟩ := abs_int hv
  obtain ⟨u, rfl⟩ := abs_int hw
  with_reducible refine rshift_int hj ?kk
  case kk => exact hQ _ _ _ (S.toks _) h
theorem bin_addS (hl : x.length + y.length ≤ 16777216) (h : Q (.str (x ++ y)) H) : Bin C m (binaryOp .Add) (.str x) (.str y) H Q := by
  intro v w hv hw _ s Q' S hQ
  obtain ⟨t, rfl⟩ := abs_str hv
  obtain ⟨u, rfl⟩ := abs_str hw
  with_reducible refine SB.add (fun t' k => hQ _ H _ (S.toks k) ?_) (by simpa [PySem.Str.length, sizeLine] using hl)
  show Q (.str (x.toArray ++ y.toArray).toList) H
  simpa using h
theorem un_neg (h : Q (.int (-i)) H) : Un C m .USub (.int i) H Q := by
  intro v hv _ s Q' S hQ
  obtain ⟨t, rfl⟩ := abs_int hv
  with_reducible refine P.neg_int ?kk
  case kk => exact hQ _ _ _ (S.toks _) h
-- in place
theorem inp_add (h : Q (.int (i + j)) H) : Bin C m (inplaceOp .Add) (.int i) (.int j) H Q := by
  intro v w hv hw _ s Q' S hQ
  obtain ⟨t, rfl⟩ := abs_int hv
  obtain ⟨u, rfl⟩ := abs_int hw
  with_reducible refine P.iadd_int ?kk
  case kk => exact hQ _ _ _ (S.toks _) h
theorem inp_mul (hm : i.natAbs < 2 ^ 64 ∨ j.natAbs < 2 ^ 64) (h : Q (.int (i * j)) H) : Bin C m (inplaceOp .Mult) (.int i) (.int j) H Q := by
  intro v w hv hw _ s Q' S hQ
  obtain ⟨t, rfl⟩ := abs_int hv
  obtain ⟨u, rfl⟩ := abs_int hw
  with_reducible refine P.imul_int ?kk (mulOk hm)
  case kk => exact hQ _ _ _ (S.toks _) h
theorem inp_div (hj : j ≠ 0) (hs : j.natAbs < 2 ^ 1000) (h : Q (.int (i.fdiv j)) H) : Bin C m (inplaceOp .FloorDiv) (.int i) (.int j) H Q := by
  intro v w hv hw _ s Q' S hQ
  obtain ⟨t, rfl⟩ := abs_int hv
  obtain ⟨u, rfl⟩ := abs_int hw
  with_reducible refine ifloordiv_int hj ?kk (.inl (noPy hj hs))
  case kk => exact hQ _ _ _ (S.toks _) h
theorem inp_addS (hl : x.length + y.length ≤ 16777216) (h : Q (.str (x ++ y)) H) : Bin C m (inplaceOp .Add) (.str x) (.str y) H Q := by
  intro v w hv hw _ s Q' S hQ
  obtain ⟨t, rfl⟩ := abs_str hv
  obtain ⟨u, rfl⟩ := abs_str hw
  with_reducible refine P.iadd_str (SB.post_add (by simpa [PySem.Str.length, sizeLine] using hl) fun t' k => hQ _ H _ (S.toks k) ?_)
  show Q (.str (x.toArray ++ y.toArray).toList) H
  simpa using h
-- comparisons
theorem cmp_eqI (h : QB (i == j) H) : Cmp C m .Eq (.int i) (.int j) H QB := by
  intro v w hv hw _ s Q' S hQ
  obtain ⟨t, rfl⟩ := abs_int hv
  obtain ⟨u, rfl⟩ := abs_int hw
  with_reducible refine P.eq_int ?kk
  case kk => exact hQ _ _ _ S ⟨_, rfl, h⟩
theorem cmp_neI (h : QB (i != j) H) : Cmp C m .NotEq (.int i) (.int j) H QB := by
  intro v w hv hw _ s Q' S hQ
  obtain ⟨t, rfl⟩ := abs_int hv
  obtain ⟨u, rfl⟩ := abs_int hw
  with_reducible refine P.ne_int ?kk
  case kk => exact hQ _ _ _ S ⟨_, rfl, h⟩
theorem cmp_ltI (h : QB (decide (i < j)) H) : Cmp C m .Lt (.int i) (.int j) H QB := by
  intro v w hv hw _ s Q' S hQ
  obtain ⟨t, rfl⟩ := abs_int hv
  obtain ⟨u, rfl⟩ := abs_int hw
  with_reducible refine P.lt_int ?kk
  case kk => exact hQ _ _ _ S ⟨_, rfl, h⟩
theorem cmp_leI (h : QB (decide (i ≤ j)) H) : Cmp C m .LtE (.int i) (.int j) H QB := by
  intro v w hv hw _ s Q' S hQ
  obtain ⟨t, rfl⟩ := abs_int hv
  obtain ⟨u, rfl⟩ := abs_int hw
  with_reducible refine P.le_int ?kk
  case kk => exact hQ _ _ _ S ⟨_, rfl, h⟩
theorem cmp_gtI (h : QB (decide (i > j)) H) : Cmp C m .Gt (.int i) (.int j) H QB := by
  intro v w hv hw _ s Q' S hQ
  obtain ⟨t, rfl⟩ := abs_int hv
  obtain ⟨u, rfl⟩ := abs_int hw
  with_reducible refine P.gt_int ?kk
  case kk => exact hQ _ _ _ S ⟨_, rfl, h⟩
theorem cmp_geI (h : QB (decide (i ≥ j)) H) : Cmp C m .GtE (.int i) (.int j) H QB := by
  intro v w hv hw _ s Q' S hQ
  obtain ⟨t, rfl⟩ := abs_int hv
  obtain ⟨u, rfl⟩ := abs_int hw
  with_reducible refine P.ge_int ?kk
  case kk => exact hQ _ _ _ S ⟨_, rfl, h⟩
theorem cmp_eqS (h : QB (x == y) H) : Cmp C m .Eq (.str x) (.str y) H QB := by
  intro v w hv hw _ s Q' S hQ
  obtain ⟨t, rfl⟩ := abs_str hv
  obtain ⟨u, rfl⟩ := abs_str hw
  with_reducible refine P.eq_str ?kk
  case kk => exact hQ _ _ _ S ⟨_, rfl, h⟩
theorem cmp_neS (h : QB (x != y) H) : Cmp C m .NotEq (.str x) (.str y) H QB := by
  intro v w hv hw _ s Q' S hQ
  obtain ⟨t, rfl⟩ := abs_str hv
  obtain ⟨u, rfl⟩ := abs_str hw
  with_reducible refine P.ne_str ?kk
  case kk => exact hQ _ _ _ S ⟨_, rfl, h⟩
theorem cmp_neB {b c : List UInt8} (h : QB (b != c) H) : Cmp C m .NotEq (.bytes b) (.bytes c) H QB := by
  intro v w hv hw _ s Q' S hQ
  obtain ⟨t, rfl⟩ := abs_bytes hv
  obtain ⟨u, rfl⟩ := abs_bytes hw
  with_reducible refine ne_bytes ?kk
  case kk => exact hQ _ _ _ S ⟨_, rfl, h⟩
theorem cmp_inS (c : Nat) (h : QB (decide (c ∈ y)) H) : Cmp C m .In (.str [c]) (.str y) H QB := by
  intro v w hv hw _ s Q' S hQ
  obtain ⟨t, rfl⟩ := abs_str hv
  obtain ⟨u, rfl⟩ := abs_str hw
  with_reducible refine P.in_str ?_
  refine hQ _ _ _ S ⟨_, rfl, ?_⟩
  have := PySem.StrLaws.found_one ⟨y.toArray⟩ c
  rw [show (⟨[c].toArray⟩ : PySem.Str) = ⟨#[c]⟩ from rfl, this]
  simpa using h
theorem cmp_notInS (c : Nat) (h : QB (!decide (c ∈ y)) H) : Cmp C m .NotIn (.str [c]) (.str y) H QB := by
  intro v w hv hw _ s Q' S hQ
  obtain ⟨t, rfl⟩ := abs_str hv
  obtain ⟨u, rfl⟩ := abs_str hw
  with_reducible refine P.notIn_str ?_
  refine hQ _ _ _ S ⟨_, rfl, ?_⟩
  have := PySem.StrLaws.found_one ⟨y.toArray⟩ c
  rw [show (⟨[c].toArray⟩ : PySem.Str) = ⟨#[c]⟩ from rfl, this]
  simpa using h
theorem tr_bool {b : Bool} (h : QB b H) : Tr C m (.bool b) H QB := by
  intro v hv _ s Q' S hQ
  rw [abs_bool hv]
  exact wpAny_truthy_bool (hQ _ _ _ S h)
theorem tr_int (h : QB (i != 0) H) : Tr C m (.int i) H QB := by
  intro v hv _ s Q' S hQ
  obtain ⟨t, rfl⟩ := abs_int hv
  with_reducible refine P.truthy_int ?kk
  case kk => exact hQ _ _ _ S h
end
end Mine
end
section
open PySem PySem.W PySem.Calls PySem.Spec PyProof.Rows
set_option Elab.async false
set_option maxRecDepth 100000
set_option linter.unusedVariables false
namespace Mine

theorem SimW.push {C : Cx} {m : Loc} {H : PH} {s : Shared} {mr news} (S : SimW C R m H s mr news) (o : Obj) (t : Nat) : SimW C R m H { s with heap := s.heap.push o, toks := t } mr news := by
  obtain ⟨h, t', rfl⟩ := S.st
  exact ⟨⟨h.push o, t, rfl⟩, S.fr.push o, fun p hp => ⟨Heap.get?_push_of_some _ (S.nw p hp).1, (S.nw p hp).2⟩, S.rest, S.loc, S.cel, S.celS, S.view⟩
theorem Sim.push {C : Cx} {m : Loc} {H : PH} {s : Shared} (S : Sim C R m H s) (o : Obj) (t : Nat) : Sim C R m H { s with heap := s.heap.push o, toks := t } :=
  let ⟨_, _, S⟩ := S; ⟨_, _, S.push o t⟩
theorem Sim.kept {C : Cx} {m : Loc} {H : PH} : KeptByPush (Sim C R m H) := fun _ ob k x => x.push ob k

theorem SimW.fresh {C : Cx} {m : Loc} {H : PH} {s : Shared} {mr news} (S : SimW C R m H s mr news) : H s.heap.objs.size = none := by
  cases h : H s.heap.objs.size with
  | none => rfl
  | some po =>
    obtain ⟨o, hm, _⟩ := S.view _ _ h
    exact absurd (Heap.lt_size (S.nw _ hm).1) (Nat.lt_irrefl _)
/-- a new object, seen -/
theorem Sim.alloc {C : Cx} {m : Loc} {H : PH} {s : Shared} (S : Sim C R m H s) {o : Obj} {po : PO} (hr : po.Rep o) (t : Nat) (hf : o.isFreed = false := by rfl) :
    H s.heap.objs.size = none ∧ Sim C R m (H.set s.heap.objs.size po) { s with heap := s.heap.push o, toks := t } := by
  obtain ⟨mr, news, S⟩ := S
  have hfr := S.fresh
  refine ⟨hfr, mr, (s.heap.objs.size, o) :: news, ?_⟩
  have N := S.nw.push S.fr o hf
  have hne : ∀ p ∈ news, p.1 ≠ s.heap.objs.size := fun p hp => Nat.ne_of_lt (Heap.lt_size (S.nw p hp).1)
  obtain ⟨h, t', rfl⟩ := S.st
  refine ⟨⟨h.push o, t, rfl⟩, S.fr.push o, N, fun p hp => ?_, S.loc, fun j y k v hj hk hm => ?_, fun y d hd => ?_, fun a po' ha => ?_⟩
  · obtain ⟨h1, h2⟩ := S.rest p hp
    exact ⟨.tail _ h1, by show (if p.1 = _ then _ else _) = _; rw [if_neg (hne p h1)]; exact h2⟩
  · obtain ⟨c, o', w, e1, e2, e3, e4⟩ := S.cel _ _ _ _ hj hk hm
    exact ⟨c, o', w, e1, .tail _ e2, e3, e4⟩
  · obtain ⟨e1, e2, o', w, e3, e4⟩ := S.celS _ _ hd
    exact ⟨by show (if d = _ then _ else _) = _; rw [if_neg (hne _ e3)]; exact e1, e2, o', w, .tail _ e3, e4⟩
  · have ha' : (if a = h.objs.size then some po else H a) = some po' := ha
    by_cases e : a = h.objs.size
    · rw [if_pos e] at ha'
      cases ha'
      exact ⟨o, e ▸ .head _, hr⟩
    · rw [if_neg e] at ha'
      obtain ⟨o', h1, h2⟩ := S.view _ _ ha'
      exact ⟨o', .tail _ h1, h2⟩
theorem Sim.get {C : Cx} {m : Loc} {H : PH} {s : Shared} (S : Sim C R m H s) {a : Addr} {po : PO} (h : H a = some po) : ∃ o, s.heap.get? a = some o ∧ po.Rep o := by
  obtain ⟨mr, news, S⟩ := S
  obtain ⟨o, h1, h2⟩ := S.view _ _ h
  exact ⟨o, (S.nw _ h1).1, h2⟩
theorem Sim.list {C : Cx} {m : Loc} {H : PH} {s : Shared} (S : Sim C R m H s) {a : Addr} {xs : List PV} (h : H a = some (.list xs)) : ∃ vs : Array Value, s.heap.IsList a vs ∧ vs.toList.map abs = xs := by
  obtain ⟨o, h1, vs, n, rfl, h2⟩ := S.get h
  exact ⟨vs, ⟨_, h1, rfl, n, rfl⟩, h2⟩

noncomputable def Sub (C : Cx) (m : Loc) (value slice : Expr) (o i : PV) (H : PH) (Q : PV → PH → Prop) : Prop := ∀ v w, abs v = o → abs w = i → TV C m H (subscriptTail value slice v w) Q
theorem subscripted_ops (slice : Expr) (o i : Value) : ∃ ops, subscripted slice false o i = operate ops (getItem o i) := by
  cases slice with
  | Slice a b c p =>
    cases c with
    | none => exact ⟨_, rfl⟩
    | some c => exact ⟨_, rfl⟩
  | _ => exact ⟨_, rfl⟩
noncomputable abbrev SubQ2 (C : Cx) (value slice : Expr) (m : Loc) (o : PV) (Q : PV → PH → Prop) : PV → PH → Prop := fun i H2 => Sub C m value slice o i H2 Q
noncomputable abbrev SubQ (C : Cx) (value slice : Expr) (m : Loc) (Q : PV → PH → Prop) : PV → PH → Prop := fun o H1 => Ev C slice m H1 (SubQ2 C value slice m o Q)
section
variable {C : Cx} {m : Loc} {H : PH} {Q : PV → PH → Prop} {value slice : Expr} {pos p : Pos} {x : List Nat} {i : Int}
theorem ev_sub (h : Ev C value m H (SubQ C value slice m Q)) : Ev C (.Subscript value slice pos) m H Q :=
  fun R s Q' S hQ => Subscript_ (h _ s _ S fun o H1 s1 S1 q1 => q1 _ s1 _ S1 fun i H2 s2 S2 q2 => q2 o i rfl rfl _ s2 Q' S2 hQ)
theorem item_list {x : List Nat} {i : Int} (h0 : 0 ≤ i) (h1 : i < x.length) : (Txt.item ⟨x.toArray⟩ i).cps.toList = [x.getD i.toNat 0] := by
  unfold Txt.item Txt.charAt
  have e : seqIndex? i (⟨x.toArray⟩ : PySem.Str).length = some i.toNat := by
    unfold seqIndex?
    simp only [PySem.Str.length, List.size_toArray]
    simp [show ¬ i < 0 by omega]
    omega
  rw [e]
  have hl : i.toNat < x.length := by omega
  simp [List.getD, hl]
theorem sub_str (h0 : 0 ≤ i) (h1 : i < x.length) (hl : x.length ≤ 16777216) (h : Q (.str [x.getD i.toNat 0]) H) : Sub C m value slice (.str x) (.int i) H Q := by
  intro v w hv hw _ s Q' S hQ
  obtain ⟨t, rfl⟩ := abs_str hv
  obtain ⟨u, rfl⟩ := abs_int hw
  obtain ⟨ops, hs⟩ := subscripted_ops slice (.str ⟨x.toArray⟩ t) (.int i u)
  have hfit : fitsSsize i = true := by
    unfold fitsSsize
    simp
    omega
  have hit : ItemOn (model C.prog C.w) C.A C.E (.str ⟨x.toArray⟩ t) (.int i u) Q' s := by
    refine SB.item hfit (charAt_isSome (by simp [PySem.Str.length]; omega) (by simpa [PySem.Str.length] using h1)) (hQ _ _ _ (S.toks _) ?_)
    show Q (.str (Txt.item ⟨x.toArray⟩ i).cps.toList) H
    rw [item_list h0 h1]
    exact h
  obtain ⟨T, id, hl, hT, hg⟩ := hit
  exact tail_any hT hl hg hs
theorem sub_bytes {b : List UInt8} (h0 : 0 ≤ i) (h1 : i < b.length) (hl : b.length ≤ 16777216) (h : Q (.int (b.getD i.toNat 0).toNat) H) : Sub C m value slice (.bytes b) (.int i) H Q := by
  intro v w hv hw _ s Q' S hQ
  obtain ⟨t, rfl⟩ := abs_bytes hv
  obtain ⟨u, rfl⟩ := abs_int hw
  obtain ⟨ops, hs⟩ := subscripted_ops slice (.bytes b.toArray t) (.int i u)
  exact tail_any (typeIs_bytes _ _ _) FB.slot_bytes_getitem.lookup (getItem_bytes (by omega) h0 h1 (hQ _ _ _ (S.toks _) h)) hs
theorem sub_list {a : Addr} {xs : List PV} {z : PV} (hH : H a = some (.list xs)) (h0 : 0 ≤ i) (h1 : i < 2 ^ 63) (hx : xs[i.toNat]? = some z) (h : Q z H) : Sub C m value slice (.ref a) (.int i) H Q := by
  intro v w hv hw _ s Q' S hQ
  cases abs_ref hv
  obtain ⟨u, rfl⟩ := abs_int hw
  obtain ⟨vs, hl, rfl⟩ := S.list hH
  obtain ⟨ops, hs⟩ := subscripted_ops slice (.ref a) (.int i u)
  rw [List.getElem?_map] at hx
  cases hy : vs.toList[i.toNat]? with
  | none => rw [hy] at hx; cases hx
  | some y =>
    rw [hy] at hx
    cases hx
    exact tail_any hl.typeIs slot_list_getitem.lookup (wpAny_getItem_list hl h0 h1 (by simpa using hy) (hQ _ _ _ S h)) hs
end
end Mine
end
section
open PySem PySem.W PySem.Calls PySem.Spec PyProof.Rows
set_option Elab.async false
set_option maxRecDepth 100000
set_option linter.unusedVariables false
namespace Mine

theorem strsAre_of : ∀ {vs : List Value} {ys : List (List Nat)}, vs.map abs = ys.map .str → StrsAre vs (ys.map fun y => ⟨y.toArray⟩)
  | [], [], _ => .nil
  | [], _ :: _, h => by simp at h
  | _ :: _, [], h => by simp at h
  | v :: vs, y :: ys, h => by
    simp only [List.map_cons, List.cons.injEq] at h
    obtain ⟨t, rfl⟩ := abs_str h.1
    exact .cons _ t (strsAre_of h.2)
theorem intsAre_of : ∀ {vs : List Value} {ys : List Int}, vs.map abs = ys.map .int → IntsAre vs ys
  | [], [], _ => .nil
  | [], _ :: _, h => by simp at h
  | _ :: _, [], h => by simp at h
  | v :: vs, y :: ys, h => by
    simp only [List.map_cons, List.cons.injEq] at h
    obtain ⟨t, rfl⟩ := abs_int h.1
    exact .cons _ t (intsAre_of h.2)
theorem any_strs (ys : List (List Nat)) (x : List Nat) : ((ys.map fun y => (⟨y.toArray⟩ : PySem.Str)).any (· == ⟨x.toArray⟩)) = ys.any (· == x) := by
  induction ys with
  | nil => rfl
  | cons y r ih =>
    simp only [List.map_cons, List.any_cons, ih]
    congr 1
    by_cases e : y = x
    · subst e; rw [beq_self_eq_true, beq_self_eq_true]
    · have : (⟨y.toArray⟩ : PySem.Str) ≠ ⟨x.toArray⟩ := fun h => e (by simpa using congrArg (fun s : PySem.Str => s.cps.toList) h)
      rw [beq_false_of_ne e, beq_false_of_ne this]

noncomputable abbrev LstQ (Q : PV → PH → Prop) : List PV → PH → Prop := fun vs H1 => vs.length ≤ 16777216 ∧ ∀ a, H1 a = none → Q (.ref a) (H1.set a (.list vs))
noncomputable abbrev TupQ (Q : PV → PH → Prop) : List PV → PH → Prop := fun vs H1 => vs.length ≤ 16777216 ∧ ∀ a, H1 a = none → Q (.ref a) (H1.set a (.tuple vs))
noncomputable abbrev ExpQ (m : Loc) (Q : FL → Loc → PH → Prop) : PV → PH → Prop := fun _ H1 => Q .next m H1
noncomputable abbrev AsrQ (m : Loc) (Q : FL → Loc → PH → Prop) : Bool → PH → Prop := fun b H1 => b = true ∧ Q .next m H1
noncomputable abbrev AugQ2 (C : Cx) (m : Loc) (op : Operator) (i : Nat) (old : PV) (Q : FL → Loc → PH → Prop) : PV → PH → Prop := fun v H2 => Bin C m (inplaceOp op) old v H2 (AsgQ m i Q)
noncomputable abbrev AugQ (C : Cx) (value : Expr) (m : Loc) (op : Operator) (i : Nat) (Q : FL → Loc → PH → Prop) : PV → PH → Prop := fun old H1 => Ev C value m H1 (AugQ2 C m op i old Q)
section
variable {C : Cx} {m : Loc} {H : PH} {Q : PV → PH → Prop} {QB : Bool → PH → Prop} {QS : FL → Loc → PH → Prop} {value slice e test : Expr} {es : List Expr} {pos p : Pos} {k : Nat} {x y : List Nat} {a b : Addr}
theorem ev_list (h : Eas C m es H (LstQ Q)) (hs : es.all noStar = true := by rfl) : Ev C (.List es pos) m H Q :=
  fun R s Q' S hQ => List_ (eas_spliced hs h _ s _ S fun vs H1 s1 S1 q => by
    obtain ⟨hf, S2⟩ := S1.alloc (o := { cls := .type "list", data := .seq vs.toArray }) (po := .list (vs.map abs)) ⟨vs.toArray, 0, rfl, rfl⟩ s1.toks
    exact wpAny_newList (hQ _ _ _ S2 (q.2 _ hf)) (by simpa [sizeLine] using q.1))
theorem ev_tuple (h : Eas C m es H (TupQ Q)) (hs : es.all noStar = true := by rfl) : Ev C (.Tuple es k pos) m H Q :=
  fun R s Q' S hQ => Tuple_ (eas_spliced hs h _ s _ S fun vs H1 s1 S1 q => by
    obtain ⟨hf, S2⟩ := S1.alloc (o := { cls := .type "tuple", data := .seq vs.toArray }) (po := .tuple (vs.map abs)) ⟨vs, rfl, rfl⟩ s1.toks
    exact wpAny_newTuple (hQ _ _ _ S2 (q.2 _ hf)) (by simpa [sizeLine] using q.1))
theorem tup_is {s : Shared} {xs : List PV} (S : Sim C R m H s) (h : H a = some (.tuple xs)) : ∃ vs : List Value, IsTup s.heap a vs.toArray ∧ vs.map abs = xs := by
  obtain ⟨o, h1, vs, rfl, h2⟩ := S.get h
  exact ⟨vs, ⟨_, h1, rfl, 0, rfl⟩, h2⟩
theorem cmp_inT {ys : List (List Nat)} (hH : H a = some (.tuple (ys.map .str))) (h : QB (ys.any (· == x)) H) : Cmp C m .In (.str x) (.ref a) H QB := by
  intro v w hv hw _ s Q' S hQ
  obtain ⟨t, rfl⟩ := abs_str hv
  cases abs_ref hw
  obtain ⟨vs, hT, he⟩ := tup_is S hH
  refine in_tuple_strs hT (strsAre_of he) ?_
  rw [any_strs]
  exact hQ _ _ _ S ⟨_, rfl, h⟩

-- identity
theorem cmp_isP {u v : PV} {bb : Bool} (hp : ∀ v' w', abs v' = u → abs w' = v → plainIs v' w' = true ∧ (v' == w') = bb) (h : QB bb H) : Cmp C m .Is u v H QB := by
  intro v' w' hv hw _ s Q' S hQ
  obtain ⟨h1, h2⟩ := hp _ _ hv hw
  exact wpAny_is_plain h1 (hQ _ _ _ S ⟨_, rfl, h2 ▸ h⟩)
theorem cmp_isNotP {u v : PV} {bb : Bool} (hp : ∀ v' w', abs v' = u → abs w' = v → plainIs v' w' = true ∧ (v' == w') = bb) (h : QB (!bb) H) : Cmp C m .IsNot u v H QB := by
  intro v' w' hv hw _ s Q' S hQ
  obtain ⟨h1, h2⟩ := hp _ _ hv hw
  exact wpAny_isNot_plain h1 (hQ _ _ _ S ⟨_, rfl, h2 ▸ h⟩)
/-- values that are never the same thing by their kinds, and plain constants -/
inductive IsP : PV → PV → Bool → Prop
  | nn : IsP .none .none true
  | ty (x y : String) : IsP (.type x) (.type y) (x == y)
  | bn (b : Bool) : IsP (.bool b) .none false
  | sn (l : List Nat) : IsP (.str l) .none false
  | yn (l : List UInt8) : IsP (.bytes l) .none false
  | rn (a : Addr) : IsP (.ref a) .none false
  | sr (l : List Nat) (a : Addr) : IsP (.str l) (.ref a) false
theorem isP_ok {u v : PV} {bb : Bool} (h : IsP u v bb) : ∀ v' w', abs v' = u → abs w' = v → plainIs v' w' = true ∧ (v' == w') = bb := by
  intro v' w' hv hw
  cases h with
  | nn => rw [abs_none hv, abs_none hw]; exact ⟨rfl, rfl⟩
  | ty x y =>
    rw [abs_type hv, abs_type hw]
    refine ⟨rfl, ?_⟩
    by_cases e : x = y
    · subst e; rw [beq_self_eq_true, beq_self_eq_true]
    · rw [beq_false_of_ne e, beq_false_of_ne (fun h => e (by cases h; rfl))]
  | bn b => rw [abs_bool hv, abs_none hw]; exact ⟨rfl, rfl⟩
  | sn l => obtain ⟨t, rfl⟩ := abs_str hv; rw [abs_none hw]; exact ⟨rfl, rfl⟩
  | yn l => obtain ⟨t, rfl⟩ := abs_bytes hv; rw [abs_none hw]; exact ⟨rfl, rfl⟩
  | rn a => rw [abs_ref hv, abs_none hw]; exact ⟨rfl, rfl⟩
  | sr l a => obtain ⟨t, rfl⟩ := abs_str hv; rw [abs_ref hw]; exact ⟨rfl, rfl⟩
theorem cmp_is {u v : PV} {bb : Bool} (hp : IsP u v bb) (h : QB bb H) : Cmp C m .Is u v H QB := cmp_isP (isP_ok hp) h
theorem cmp_isNot {u v : PV} {bb : Bool} (hp : IsP u v bb) (h : QB (!bb) H) : Cmp C m .IsNot u v H QB := cmp_isNotP (isP_ok hp) h
theorem cmp_isNot_self (h : QB false H) : Cmp C m .IsNot (.ref a) (.ref a) H QB := by
  intro v w hv hw _ s Q' S hQ
  cases abs_ref hv
  cases abs_ref hw
  exact wpAny_isNot_ref_self (hQ _ _ _ S ⟨_, rfl, h⟩)
theorem cmp_is_self (h : QB true H) : Cmp C m .Is (.ref a) (.ref a) H QB := by
  intro v w hv hw _ s Q' S hQ
  cases abs_ref hv
  cases abs_ref hw
  exact wpAny_is_ref_self (hQ _ _ _ S ⟨_, rfl, h⟩)

-- truth
theorem tr_none (h : QB false H) : Tr C m .none H QB := by
  intro v hv _ s Q' S hQ
  cases abs_none hv
  exact wpAny_pure (hQ _ _ _ S h)
theorem tr_str (hl : x.length ≤ 16777216) (h : QB (decide (x ≠ [])) H) : Tr C m (.str x) H QB := by
  intro v hv _ s Q' S hQ
  obtain ⟨t, rfl⟩ := abs_str hv
  refine P.truthy_str (by simp [PySem.Str.length]; omega) (hQ _ _ _ (S.toks _) ?_)
  have e : (((⟨x.toArray⟩ : PySem.Str).length : Int) != 0) = decide (x ≠ []) := by
    cases x with
    | nil => rfl
    | cons c r => simp [PySem.Str.length]; omega
  show QB (((⟨x.toArray⟩ : PySem.Str).length : Int) != 0) H
  rw [e]; exact h
theorem tr_list {xs : List PV} (hH : H a = some (.list xs)) (hl : xs.length ≤ 16777216) (h : QB (!xs.isEmpty) H) : Tr C m (.ref a) H QB := by
  intro v hv _ s Q' S hQ
  cases abs_ref hv
  obtain ⟨vs, hL, rfl⟩ := S.list hH
  refine wpAny_truthy_list hL (by simp at hl; omega) (hQ _ _ _ (S.toks _) ?_)
  have e : vs.isEmpty = (vs.toList.map abs).isEmpty := by
    cases vs with | mk l => cases l <;> rfl
  show QB (!vs.isEmpty) H
  rw [e]; exact h

-- len
theorem ca_len_str (hl : x.length ≤ 16777216) (h : Q (.int x.length) H) : Ca C m (.builtin "len") [.str x] [] H Q := by
  intro f args kw hf ha hk _ s Q' S hQ
  cases abs_builtin hf
  cases args with
  | nil => cases ha
  | cons v r =>
    cases r with
    | cons _ _ => simp at ha
    | nil =>
      cases kw with
      | cons _ _ => simp at hk
      | nil =>
        simp only [List.map_cons, List.map_nil, List.cons.injEq, and_true] at ha
        obtain ⟨t, rfl⟩ := abs_str ha
        refine P.len_str (by simp [PySem.Str.length]; omega) (hQ _ _ _ (S.toks _) ?_)
        show Q (.int ((⟨x.toArray⟩ : PySem.Str).length)) H
        simpa [PySem.Str.length] using h
theorem ca_len_bytes {bb : List UInt8} (hl : bb.length ≤ 16777216) (h : Q (.int bb.length) H) : Ca C m (.builtin "len") [.bytes bb] [] H Q := by
  intro f args kw hf ha hk _ s Q' S hQ
  cases abs_builtin hf
  cases args with
  | nil => cases ha
  | cons v r =>
    cases r with
    | cons _ _ => simp at ha
    | nil =>
      cases kw with
      | cons _ _ => simp at hk
      | nil =>
        simp only [List.map_cons, List.map_nil, List.cons.injEq, and_true] at ha
        obtain ⟨t, rfl⟩ := abs_bytes ha
        refine KBw.len_K (ks := KBw.bInts bb.toArray) rfl (by rw [KBw.ints_length]; simp; omega) (hQ _ _ _ (S.toks _) ?_)
        show Q (.int ((KBw.bInts bb.toArray).length : Nat)) H
        rw [KBw.ints_length]
        simpa using h
theorem ca_len_list {xs : List PV} (hH : H a = some (.list xs)) (hl : xs.length ≤ 16777216) (h : Q (.int xs.length) H) : Ca C m (.builtin "len") [.ref a] [] H Q := by
  intro f args kw hf ha hk _ s Q' S hQ
  cases abs_builtin hf
  cases args with
  | nil => cases ha
  | cons v r =>
    cases r with
    | cons _ _ => simp at ha
    | nil =>
      cases kw with
      | cons _ _ => simp at hk
      | nil =>
        simp only [List.map_cons, List.map_nil, List.cons.injEq, and_true] at ha
        cases abs_ref ha
        obtain ⟨vs, hL, rfl⟩ := S.list hH
        refine call_len_list hL (by simp at hl; omega) (hQ _ _ _ (S.toks _) ?_)
        show Q (.int vs.size) H
        simpa using h

-- statements
theorem ex_expr (h : Ev C e m H (ExpQ m QS)) (hi : interactive C.env = false := by rfl) (hs : swapsWith e none pos.line C.env = pure false := by rfl) : Ex1 C (.Expr e pos) m H QS :=
  fun R s Q' S hQ => wpAny_Expr_any (h _ s _ S fun v H1 s1 S1 q => hQ _ _ _ _ S1 q) hi hs
theorem ex_assert {msg : Option Expr} (h : Te C test m H (AsrQ m QS)) : Ex1 C (.Assert test msg pos) m H QS :=
  fun R s Q' S hQ => wpAny_Assert_holds (h _ s _ S fun v H1 s1 S1 q => ⟨q.1, hQ _ _ _ _ S1 q.2⟩)
noncomputable def Ld (C : Cx) (x : Str) (m : Loc) (H : PH) (Q : PV → PH → Prop) : Prop := TV C m H (loadName C.env x) Q
theorem ld_local (O : C.Ok) {x : Str} {i : Nat} {v : PV} (hs : C.env.scope.names[i]? = some (x, NameKind.local)) (hm : m[i]? = some (some v)) (h : Q v H) : Ld C x m H Q := by
  rintro R s Q' ⟨mr, news, S⟩ hQ
  obtain ⟨w, hw, rfl⟩ := S.loc _ _ _ hs hm
  exact wpAny_loadName_local O.kind (lookup_of_get O.names hs) S.fr.ns hw (hQ _ _ _ ⟨_, _, S⟩ h)
theorem ld_cell (O : C.Ok) {x : Str} {i : Nat} {v : PV} (hs : C.env.scope.names[i]? = some (x, NameKind.cell)) (hm : m[i]? = some (some v)) (h : Q v H) : Ld C x m H Q := by
  rintro R s Q' ⟨mr, news, S⟩ hQ
  obtain ⟨c, o, w, hc, hmem, hdat, rfl⟩ := S.cel _ _ _ _ hs (.inl rfl) hm
  exact wpAny_loadName_cell O.kind (lookup_of_get O.names hs) hc ⟨o, (S.nw _ hmem).1, hdat⟩ (hQ _ _ _ ⟨_, _, S⟩ h)
theorem ex_aug (O : C.Ok) {i : Nat} {x : Str} {px : Pos} {op : Operator} (hx : Slot' C x i) (h : Ld C x m H (AugQ C value m op i QS)) :
    Ex1 C (.AugAssign (.Name x px) op value pos) m H QS :=
  fun R s Q' S hQ => wpAny_AugAssign_Name (h _ s _ S fun old H1 s1 S1 q1 => q1 _ s1 _ S1 fun v H2 s2 S2 q2 => q2 old v rfl rfl _ s2 _ S2 fun r H3 s3 S3 q3 => store_any O hx S3 fun s4 S4 => hQ .next _ _ _ S4 q3)
end
end Mine
end
section
open PySem PySem.W PySem.Calls PySem.Spec PyProof.Rows
set_option Elab.async false
set_option maxRecDepth 100000
set_option linter.unusedVariables false
namespace Mine

theorem cf_ge : ∀ (names : List (Str × NameKind)) (n : Nat) (acc : List (Str × Addr)), ∀ p ∈ cellsFrom n names acc, p ∈ acc ∨ n ≤ p.2
  | [], _, _, p, hp => .inl hp
  | (x, k) :: r, n, acc, p, hp => by
    unfold cellsFrom at hp
    split at hp
    · rcases cf_ge r (n + 1) _ p hp with h | h
      · rcases List.mem_cons.mp h with rfl | h
        · exact .inr (Nat.le_refl _)
        · exact .inl h
      · exact .inr (Nat.le_of_succ_le h)
    · exact cf_ge r n acc p hp
theorem cf_apart : ∀ (names : List (Str × NameKind)) (n : Nat) (acc : List (Str × Addr)), (∀ p ∈ acc, @LT.lt Nat _ p.2 n) → acc.Pairwise (fun p q => p.2 ≠ q.2) → (cellsFrom n names acc).Pairwise (fun p q => p.2 ≠ q.2)
  | [], _, _, _, h => h
  | (x, k) :: r, n, acc, h1, h2 => by
    unfold cellsFrom
    split
    · refine cf_apart r (n + 1) _ (fun p hp => ?_) (List.pairwise_cons.mpr ⟨fun q hq e => ?_, h2⟩)
      · rcases List.mem_cons.mp hp with rfl | hp
        · exact Nat.lt_succ_self _
        · exact Nat.lt_succ_of_lt (h1 p hp)
      · exact absurd (h1 q hq) (e ▸ Nat.lt_irrefl _)
    · exact cf_apart r n acc h1 h2
theorem mem_of_lookup {l : List (Str × Addr)} {x : Str} {c : Addr} (h : l.lookup x = some c) : (x, c) ∈ l := by
  induction l with
  | nil => cases h
  | cons p r ih =>
    obtain ⟨y, d⟩ := p
    rw [List.lookup_cons] at h
    split at h
    · rename_i e
      cases h
      rw [beq_iff_eq.mp e]
      exact .head _
    · exact .tail _ (ih h)
theorem pw_inj {l : List (Str × Addr)} (h : l.Pairwise (fun p q => p.2 ≠ q.2)) {p q : Str × Addr} (hp : p ∈ l) (hq : q ∈ l) (e : p.2 = q.2) : p = q := by
  induction l with
  | nil => cases hp
  | cons a r ih =>
    rw [List.pairwise_cons] at h
    rcases List.mem_cons.mp hp with rfl | hp'
    · rcases List.mem_cons.mp hq with rfl | hq'
      · rfl
      · exact absurd e (h.1 q hq')
    · rcases List.mem_cons.mp hq with rfl | hq'
      · exact absurd e.symm (h.1 p hp')
      · exact ih h.2 hp' hq'
theorem cells_mem {cm : Str → Option Value} {cs : List (Str × Addr)} {cells : List (Addr × Obj)} (X : CellsAre cm cs cells) {n : Str} {c : Addr} (h : (n, c) ∈ cs) : ∃ o, (c, o) ∈ cells ∧ o.data = .cell (cm n) := by
  induction X with
  | nil => cases h
  | cons hd _ ih =>
    rcases List.mem_cons.mp h with e | h
    · cases e; exact ⟨_, .head _, hd⟩
    · obtain ⟨o, h1, h2⟩ := ih h; exact ⟨o, .tail _ h1, h2⟩
theorem bindL_locals {kindOf : Str → Option NameKind} : ∀ {binds : List (Str × Value)} {m : Str → Option Value}, (∀ y ∈ binds, kindOf y.1 = some .local) → bindL kindOf binds m = fun x => (binds.reverse.lookup x).or (m x)
  | [], m, _ => by funext x; simp [bindL]
  | (n, v) :: r, m, h => by
    unfold bindL
    rw [if_pos (h _ (.head _)), bindL_locals fun y hy => h y (.tail _ hy)]
    funext x
    simp only [List.reverse_cons, List.lookup_append, Option.or_assoc]
    congr 1
    by_cases e : x = n
    · subst e; simp
    · simp [List.lookup, beq_false_of_ne e, e]
theorem bindC_locals {kindOf : Str → Option NameKind} : ∀ {binds : List (Str × Value)} {m : Str → Option Value}, (∀ y ∈ binds, kindOf y.1 = some .local) → bindC kindOf binds m = m
  | [], m, _ => rfl
  | (n, v) :: r, m, h => by
    unfold bindC
    rw [if_pos (h _ (.head _)), bindC_locals fun y hy => h y (.tail _ hy)]

/-- the places of the parameters, their values -/
noncomputable def initLoc (names : List (Str × NameKind)) (bs : List (Str × PV)) : Loc := names.map fun n => bs.lookup n.1
theorem lookup_map {bs : List (Str × Value)} (x : Str) : (bs.map fun p => (p.1, abs p.2)).lookup x = (bs.lookup x).map abs := by
  induction bs with
  | nil => rfl
  | cons p r ih =>
    obtain ⟨y, v⟩ := p
    simp only [List.map_cons, List.lookup_cons]
    split
    · rfl
    · exact ih
theorem lookup_isSome {α : Type} {bs : List (Str × α)} {x : Str} {v : α} (h : bs.lookup x = some v) : (x, v) ∈ bs := by
  induction bs with
  | nil => cases h
  | cons p r ih =>
    obtain ⟨y, u⟩ := p
    rw [List.lookup_cons] at h
    split at h
    · rename_i e
      cases h
      rw [beq_iff_eq.mp e]
      exact .head _
    · exact .tail _ (ih h)

/-- the end of a def -/
noncomputable def Fin' (Q : PV → PH → Prop) : FL → Loc → PH → Prop
  | .ret v, _, H => Q v H
  | .next, _, H => Q .none H
  | _, _, _ => False
theorem fin_ret {Q : PV → PH → Prop} {v : PV} {m : Loc} {H : PH} (h : Q v H) : Fin' Q (.ret v) m H := h
theorem fin_next {Q : PV → PH → Prop} {m : Loc} {H : PH} (h : Q .none H) : Fin' Q .next m H := h
/-- the frame of a callee, seen from its caller -/
structure Called (C C' : Cx) (qual : Str) (sc : Scope) (f : Addr) (cdv : Value) : Prop where
  ok : C'.Ok
  g : C'.g = C.g
  scope : C'.env.scope = sc
  A : C'.A = C.A.deeper C'.env
  env : ∃ L', C'.env = envOfC qual sc L' f cdv
  cell : ∀ x, sc.names.lookup x = some NameKind.cell → ∃ c, C'.env.cells.lookup x = some c
  A₀ : C'.A₀ = C.A
  base : C'.base = C.base
  outer : C'.outer = C.env :: C.outer
  E : C'.E = fun e s' => wpAny (model C.prog C.w) (C.A.deeper C'.env) (leaving C'.env e) (fun _ s'' => C.E e s'') (fun e' s'' => C.E e' s'') s'
  fr : ∃ mr, Fr C.h₀ C.env.locals C'.h₀ mr
  s₀ : C'.s₀ = C.s₀
theorem Called.depth {C C' : Cx} {qual : Str} {scope : Scope} {f : Addr} {cdv : Value} (K : Called C C' qual scope f cdv) : C'.A.depth = C.A.depth + 1 := by rw [K.A]; rfl

theorem call_fn {C : Cx} {m : Loc} {H : PH} {Q : PV → PH → Prop} (O : C.Ok) (hroom : C.A.depth < recursionLimit) {name qual : Str} {params : Arguments} {body : List Stmt} {scope : Scope} {dV kV doc pm cdv ct oc : Value} {an od : Option Addr} {osl : Array (Option Value)} {f : Addr}
    {args : List PV} {kw : List (Str × PV)} (bs : List (Str × PV))
    (ho : C.K.lookup f = some ⟨oc, od, .func (fnOf name qual params body scope dV kV doc pm an cdv ct), osl⟩) (hcd : codeIn C.K cdv qual = true)
    (hb : ∀ s (vs : List Value) (ks : List (Str × Value)), C.K.In s.heap → vs.map abs = args → ks.map (fun p => (p.1, abs p.2)) = kw → ∃ binds, BindsTo s (fnOf name qual params body scope dV kV doc pm an cdv ct) ⟨vs, ks⟩ binds ∧ binds.map (fun p => (p.1, abs p.2)) = bs)
    (hloc : ∀ y ∈ bs, scope.names.lookup y.1 = some .local) (hnames : (scope.names.map (·.1)).Nodup) (hfree : ∀ x ∈ scope.names, x.2 ≠ .free)
    (hnd : ((cellsFrom 0 scope.names []).map (·.1)).Nodup) (hco : scope.isCoroutine = false) (hgen : scope.isGenerator = false) (hk : scope.kind = .function)
    (h : ∀ C' : Cx, Called C C' qual scope f cdv →
      Exs C' body (initLoc scope.names bs.reverse) H (Fin' Q)) :
    Ca C m (.ref f) args kw H Q := by
  intro f' vs ks hf hvs hks R s Q' S hQ
  cases abs_ref hf
  obtain ⟨mr, news, S⟩ := S
  have hKs : C.K.In s.heap := O.kin.keeps S.fr.keep
  obtain ⟨binds, hbind, rfl⟩ := hb s vs ks hKs hvs hks
  have hloc' : ∀ y ∈ binds, scope.names.lookup y.1 = some .local := fun y hy => hloc (y.1, abs y.2) (List.mem_map.mpr ⟨y, hy, rfl⟩)
  have hfr : C.A.frames = some (C.env :: C.outer) := by rw [O.hA]; exact Around.frames_deeper O.below.stack
  refine wpAny_call (callX_cells (news := news) O.below S.fr S.nw O.top.nolimit hfr O.frame O.kind (hKs _ _ ho) rfl (codeRec_of hKs hcd) hroom hbind (fun n y hy => .inl (hloc' y hy)) hnd ?_ hco hgen hk)
  intro g L' h₁ tk cells FG FN NN CA BB st hlt
  have hpw := cf_apart scope.names (L' + 1) [] (fun _ hp => nomatch hp) .nil
  let E' : Value → Shared → Prop := fun e s' => wpAny (model C.prog C.w) (C.A.deeper (envOfC qual scope L' f cdv)) (leaving (envOfC qual scope L' f cdv) e) (fun _ s'' => C.E e s'') (fun e' s'' => C.E e' s'') s'
  let C' : Cx := { g := C.g, A := C.A.deeper (envOfC qual scope L' f cdv), env := envOfC qual scope L' f cdv, E := E', h₀ := g, s₀ := C.s₀, A₀ := C.A, base := C.base, outer := C.env :: C.outer }
  have O' : C'.Ok := ⟨hk, rfl, rfl, rfl, O.hand, O.kin.keeps st, O.top.keeps st, PassesOwn.leaving, fun x y c hx hy => by
    have := pw_inj hpw (mem_of_lookup hx) (mem_of_lookup hy) rfl
    exact congrArg Prod.fst this, hnames, rfl, BB, let ⟨bm, ob, b1, b2, b3, b4⟩ := O.bm; ⟨bm, ob, b1, b2, st _ _ b3, b4⟩⟩
  have hcell : ∀ x, scope.names.lookup x = some .cell → ∃ c, C'.env.cells.lookup x = some c := fun x hx =>
    Option.isSome_iff_exists.mp (cellsFrom_some scope.names (L' + 1) [] (.inl hx))
  have S' : Sim C' (news.filter fun p => (H p.1).isNone) (initLoc scope.names (binds.map fun p => (p.1, abs p.2)).reverse) H { s with heap := h₁, toks := tk } := by
    refine ⟨_, cells ++ news, ⟨?_, FN, NN, fun p hp => ?_, fun i x v hi hm => ?_, fun i x k v hi hk' hm => ?_, fun x c hc => ?_, fun a po ha => ?_⟩⟩
    · obtain ⟨hh, tt, rfl⟩ := S.st
      exact ⟨h₁, tk, rfl⟩
    · obtain ⟨h1, h2⟩ := List.mem_filter.mp hp
      exact ⟨List.mem_append_right _ h1, by simpa using h2⟩
    · have hi' : scope.names[i]? = some (x, NameKind.local) := hi
      have e : (initLoc scope.names (binds.map fun p => (p.1, abs p.2)).reverse)[i]? = some ((binds.map fun p => (p.1, abs p.2)).reverse.lookup x) := by simp [initLoc, hi']
      rw [hm] at e
      cases e' : (binds.map fun p => (p.1, abs p.2)).reverse.lookup x with
      | none => rw [e'] at e; cases e
      | some u =>
        rw [e'] at e
        cases e
        rw [← List.map_reverse, lookup_map] at e'
        cases e2 : binds.reverse.lookup x with
        | none => rw [e2] at e'; cases e'
        | some w =>
          rw [e2] at e'
          refine ⟨w, ?_, by simpa using e'⟩
          show bindL (envOfC qual scope L' f cdv).kindOf binds (fun _ => none) x = some w
          rw [bindL_locals fun y hy => hloc' y hy]
          simp [e2]
    · exfalso
      have hi' : scope.names[i]? = some (x, k) := hi
      rcases hk' with rfl | rfl
      · have e : (initLoc scope.names (binds.map fun p => (p.1, abs p.2)).reverse)[i]? = some ((binds.map fun p => (p.1, abs p.2)).reverse.lookup x) := by simp [initLoc, hi']
        rw [hm] at e
        cases e' : (binds.map fun p => (p.1, abs p.2)).reverse.lookup x with
        | none => rw [e'] at e; cases e
        | some u =>
          have hmem := lookup_isSome e'
          rw [List.mem_reverse] at hmem
          have := hloc _ hmem
          rw [lookup_of_get hnames hi'] at this
          cases this
      · exact hfree _ (List.mem_of_getElem? hi') rfl
    · have hc' : (x, c) ∈ cellsFrom (L' + 1) scope.names [] := mem_of_lookup hc
      obtain ⟨o, h1, h2⟩ := cells_mem CA hc'
      have hge : L' + 1 ≤ c := (cf_ge _ _ _ _ hc').resolve_left (fun hp => nomatch hp)
      have hnot : ∀ p ∈ news, p.1 ≠ c := fun p hp e => by
        have := hlt p hp
        have h3 : L' + 1 ≤ p.1 := e ▸ hge
        exact absurd (Nat.lt_of_lt_of_le this (Nat.le_of_succ_le h3)) (Nat.lt_irrefl _)
      refine ⟨?_, fun p hp => hnot p (List.mem_filter.mp hp).1, o, _, List.mem_append_left _ h1, h2⟩
      cases q : H c with
      | none => rfl
      | some po =>
        obtain ⟨o', h3, _⟩ := S.view _ _ q
        exact absurd rfl (hnot _ h3)
    · obtain ⟨o, h1, h2⟩ := S.view _ _ ha
      exact ⟨o, List.mem_append_right _ h1, h2⟩
  have hcall : Called C C' qual scope f cdv := ⟨O', rfl, rfl, rfl, ⟨L', rfl⟩, hcell, rfl, rfl, rfl, rfl, ⟨_, FG⟩, rfl⟩
  refine h C' hcall _ _ _ S' fun fl m' H' s' S2 q => ?_
  obtain ⟨mr', news', S2⟩ := S2
  refine ⟨L', mr', news', S2.fr, S2.nw, fun F3 N3 => ?_⟩
  have back : Sim C R m H' s' := by
    have hin : ∀ p ∈ news, H p.1 = none → p ∈ news' ∧ H' p.1 = none := fun p hp hn => S2.rest p (List.mem_filter.mpr ⟨hp, by rw [hn]; rfl⟩)
    refine ⟨mr, news', ⟨?_, F3, N3, fun p hp => ?_, S.loc, fun i x k v hi hk' hm => ?_, fun x c hc => ?_, S2.view⟩⟩
    · exact S2.st
    · exact hin p (S.rest p hp).1 (S.rest p hp).2
    · obtain ⟨c, o, w, e1, e2, e3, e4⟩ := S.cel _ _ _ _ hi hk' hm
      exact ⟨c, o, w, e1, (hin _ e2 (S.celS _ _ e1).1).1, e3, e4⟩
    · obtain ⟨e1, e2, o, w, e3, e4⟩ := S.celS _ _ hc
      exact ⟨(hin _ e3 e1).2, e2, o, w, (hin _ e3 e1).1, e4⟩
  cases fl with
  | ret v => exact hQ _ _ _ back q
  | next => exact hQ _ _ _ back q
  | brk => exact q.elim
  | cont => exact q.elim
end Mine
end
section
open PySem PySem.W PySem.Calls PySem.Spec PyProof.Rows
set_option Elab.async false
set_option maxRecDepth 100000
set_option linter.unusedVariables false
namespace Mine
noncomputable abbrev pw : Program := PySem.Challenge.pw_kq0073_01
noncomputable def fnN (n : Nat) : Option (Str × Arguments × List Stmt × Scope) := match pw.main.body[n]? with
  | some (.FunctionDef nm a b _ _ _ sc _ _ _) => some (nm, a, b, sc)
  | _ => none
noncomputable def bodyN (n : Nat) : List Stmt := match pw.main.body[n]? with
  | some (.FunctionDef nm a b _ _ _ sc _ _ _) => b
  | _ => []
noncomputable def argsN (n : Nat) : Arguments := match pw.main.body[n]? with
  | some (.FunctionDef nm a b _ _ _ sc _ _ _) => a
  | _ => ⟨[], [], none, [], [], none, []⟩
noncomputable def scopeN (n : Nat) : Scope := match pw.main.body[n]? with
  | some (.FunctionDef nm a b _ _ _ sc _ _ _) => sc
  | _ => pw.main.scope
noncomputable def nameN (n : Nat) : Str := match pw.main.body[n]? with
  | some (.FunctionDef nm a b _ _ _ sc _ _ _) => nm
  | _ => Str.empty
noncomputable def pmOf (K : Frag) (f : Addr) : Value := match K.lookup f with
  | some ⟨_, _, .func fd, _⟩ => fd.pyModule
  | _ => .none
/-- the def of place n of the text stands at f, its code at c -/
structure FnAt (K : Frag) (n : Nat) (nm : Str) (f c : Addr) (dV kV : Value) : Prop where
  at_ : K.lookup f = some ⟨.type "function", none, .func (fnOf nm nm (argsN n) (bodyN n) (scopeN n) dV kV .none (pmOf K f) none (.ref c) .none), #[]⟩
  code : codeIn K (.ref c) nm = true
  ns : nsIn K mainGlobals nm = some (some (.ref f))
  keep : keepIn K (.ref f) = true
/-- a dict of whole numbers to texts, read -/
noncomputable def dictView (o : Obj) : Option (List (Int × List Nat)) := match o with
  | ⟨.type "dict", none, .dict es _, sl⟩ => if sl.isEmpty then es.toList.mapM fun e => match e.key, e.val with
    | .int k _, .str v _ => if e.hash == hashInt k then some (k, v.cps.toList) else none
    | _, _ => none
    else none
  | _ => none
noncomputable def specials : List Nat := [40, 41, 91, 93, 123, 125, 63, 42, 43, 45, 124, 94, 36, 92, 46, 38, 126, 35, 32, 9, 10, 13, 11, 12]
noncomputable def b64abc : List UInt8 := [65, 66, 67, 68, 69, 70, 71, 72, 73, 74, 75, 76, 77, 78, 79, 80, 81, 82, 83, 84, 85, 86, 87, 88, 89, 90, 97, 98, 99, 100, 101, 102, 103, 104, 105, 106, 107, 108, 109, 110, 111, 112, 113, 114, 115, 116, 117, 118, 119, 120, 121, 122, 48, 49, 50, 51, 52, 53, 54, 55, 56, 57, 43, 47]
noncomputable def reCode : List Int := [14, 14, 4, 1, 1, 9, 0, 64, 0, 1342177280, 0, 0, 0, 0, 0, 17, 0, 13, 11, 9, 0, 64, 0, 1342177280, 0, 0, 0, 0, 0, 17, 1, 1]
noncomputable def isStrV : Value → Bool | .str _ _ => true | _ => false
noncomputable def isIntV : Value → Bool | .int _ _ => true | _ => false
noncomputable def isBoolV : Value → Bool | .bool _ => true | _ => false
noncomputable def is64V : Value → Bool | .ref a => a == 64 | _ => false
theorem and_of {a b : Bool} (h : (a && b) = true) : a = true ∧ b = true := by rwa [Bool.and_eq_true] at h
theorem isStrV_of {v : Value} (h : isStrV v = true) : ∃ x t, v = .str x t := by cases v <;> first | exact ⟨_, _, rfl⟩ | exact absurd h Bool.false_ne_true
theorem isIntV_of {v : Value} (h : isIntV v = true) : ∃ x t, v = .int x t := by cases v <;> first | exact ⟨_, _, rfl⟩ | exact absurd h Bool.false_ne_true
theorem isBoolV_of {v : Value} (h : isBoolV v = true) : ∃ x, v = .bool x := by cases v <;> first | exact ⟨_, rfl⟩ | exact absurd h Bool.false_ne_true
theorem is64V_of {v : Value} (h : is64V v = true) : v = .ref 64 := by cases v <;> first | exact congrArg Value.ref (eq_of_beq h) | exact absurd h Bool.false_ne_true
/-- a code record whose table of places is 64 -/
noncomputable def codeOk (o : Obj) : Bool := match o with
  | ⟨.type "code", _, .fields vs, _⟩ => is64V (vs.getD 11 .none) && (decide (11 < vs.size) && (isStrV (vs.getD 18 .none) && (isIntV (vs.getD 7 .none) && (isBoolV (vs.getD 9 .none) && isIntV (vs.getD 10 .none)))))
  | _ => false
theorem codeOk_spec {o : Obj} (h : codeOk o = true) : ∃ vs file tf flags tg inF text tt, o.cls = .type "code" ∧ o.data = .fields vs ∧ vs[11]? = some (Value.ref 64) ∧ vs.getD 11 .none = Value.ref 64 ∧ vs.getD 18 .none = .str file tf ∧
    vs.getD 7 .none = .int flags tg ∧ vs.getD 9 .none = .bool inF ∧ vs.getD 10 .none = .int text tt := by
  unfold codeOk at h
  split at h
  · rename_i d vs sl
    obtain ⟨h1, h⟩ := and_of h
    obtain ⟨h0, h⟩ := and_of h
    obtain ⟨h2, h⟩ := and_of h
    obtain ⟨h3, h⟩ := and_of h
    obtain ⟨h4, h5⟩ := and_of h
    have hlt : 11 < vs.size := of_decide_eq_true h0
    have e11 := is64V_of h1
    have e1 : vs[11]? = some (Value.ref 64) := by
      rw [Array.getElem?_eq_getElem hlt]
      have : vs.getD 11 .none = vs[11] := by simp [Array.getD, hlt]
      rw [← this, e11]
    obtain ⟨_, _, e2⟩ := isStrV_of h2
    obtain ⟨_, _, e3⟩ := isIntV_of h3
    obtain ⟨_, e4⟩ := isBoolV_of h4
    obtain ⟨_, _, e5⟩ := isIntV_of h5
    exact ⟨vs, _, _, _, _, _, _, _, rfl, rfl, e1, e11, e2, e3, e4, e5⟩
  · cases h
structure KF (K : Frag) : Prop where
  f4 : FnAt K 4 (Str.ofString "translate") 50 49 (.none) (.none)
  f7 : FnAt K 7 (Str.ofString "escape") 62 61 (.none) (.none)
  f9 : FnAt K 9 (Str.ofString "_translate") 69 68 (.none) (.none)
  f10 : FnAt K 10 (Str.ofString "_join_translated_parts") 76 75 (.none) (.none)
  f13 : FnAt K 13 (Str.ofString "_bytes_from_decode_data") 84 83 (.none) (.none)
  f16 : FnAt K 16 (Str.ofString "_ascii_buffer") 104 103 (.none) (.none)
  f17 : FnAt K 17 (Str.ofString "_buffer") 111 110 (.none) (.none)
  f18 : FnAt K 18 (Str.ofString "_truth") 118 117 (.none) (.none)
  f20 : FnAt K 20 (Str.ofString "_b64_value") 125 124 (.none) (.none)
  f21 : FnAt K 21 (Str.ofString "a2b_base64") 133 132 (.none) (.ref 126)
  f22 : FnAt K 22 (Str.ofString "b2a_base64") 141 140 (.none) (.ref 134)
  f24 : FnAt K 24 (Str.ofString "b64encode") 149 148 (.ref 142) (.none)
  f25 : FnAt K 25 (Str.ofString "b64decode") 157 156 (.ref 150) (.none)
  f27 : FnAt K 27 (Str.ofString "_law_alphabet") 164 163 (.none) (.none)
  f28 : FnAt K 28 (Str.ofString "_law_octets") 169 168 (.none) (.none)
  f29 : FnAt K 29 (Str.ofString "_law_figures") 174 173 (.none) (.none)
  f30 : FnAt K 30 (Str.ofString "_law_set") 181 180 (.none) (.none)
  f31 : FnAt K 31 (Str.ofString "_law_read") 188 187 (.none) (.none)
  f32 : FnAt K 32 (Str.ofString "_law_due") 195 194 (.none) (.none)
  f33 : FnAt K 33 (Str.ofString "_law_decoded") 202 201 (.none) (.none)
  spc : (K.lookup 52).bind dictView = some (specials.map fun (c : Nat) => ((c : Int), [92, c]))
  n_spc : nsIn K mainGlobals (Str.ofString "_special_chars_map") = some (some (.ref 52))
  n_B64 : (nsIn K mainGlobals (Str.ofString "_B64")).map (·.map abs) = some (some (.bytes b64abc))
  n_bt : nsIn K mainGlobals (Str.ofString "bytes_types") = some (some (.ref 77))
  o77 : K.lookup 77 = some ⟨.type "tuple", none, .seq #[.type "bytes", .type "bytearray"] 0, #[]⟩
  o142 : K.lookup 142 = some ⟨.type "tuple", none, .seq #[.none] 0, #[]⟩
  o150 : K.lookup 150 = some ⟨.type "tuple", none, .seq #[.none, .bool false] 0, #[]⟩
  n_re : nsIn K mainGlobals (Str.ofString "_twin_re_1") = some (some (.ref 43))
  o43 : ∃ x t u, K.lookup 43 = some ⟨.type "re.Pattern", none, .fields #[.str x t, .int 32 u, .int 1 0, .none, .none, .ref 42, .int 0 0], #[]⟩
  o42 : K.lookup 42 = some ⟨.type "tuple", none, .seq ((reCode.map fun i => Value.int i 0).toArray) 0, #[]⟩
  o68 : (K.lookup 68).map codeOk = some true
  n_Error : nsIn K mainGlobals (Str.ofString "Error") = some (some (.ref 94))
  mkt : findCls K (.type "bytes") (.type "type") (Str.ofString "maketrans") = some (.val (.builtin "bytes.maketrans"))
  b_object : nsIn K mainGlobals (Str.ofString "object") = some none
  b_len : nsIn K mainGlobals (Str.ofString "len") = some none
  b_isinstance : nsIn K mainGlobals (Str.ofString "isinstance") = some none
  b_str : nsIn K mainGlobals (Str.ofString "str") = some none
  b_bytes : nsIn K mainGlobals (Str.ofString "bytes") = some none
  b_bytearray : nsIn K mainGlobals (Str.ofString "bytearray") = some none
  b_type : nsIn K mainGlobals (Str.ofString "type") = some none
  b_bool : nsIn K mainGlobals (Str.ofString "bool") = some none
  b_int : nsIn K mainGlobals (Str.ofString "int") = some none
  b_float : nsIn K mainGlobals (Str.ofString "float") = some none
  b_range : nsIn K mainGlobals (Str.ofString "range") = some none
  b_ValueError : nsIn K mainGlobals (Str.ofString "ValueError") = some none
  b_complex : nsIn K mainGlobals (Str.ofString "complex") = some none
theorem args0 {vs : List Value} (h : vs.map abs = []) : vs = [] := List.map_eq_nil_iff.mp h
theorem args1 {vs : List Value} {a : PV} (h : vs.map abs = [a]) : ∃ v, vs = [v] ∧ abs v = a := by
  obtain ⟨v, r, rfl, hv, hr⟩ := List.map_eq_cons_iff.mp h
  cases List.map_eq_nil_iff.mp hr
  exact ⟨v, rfl, hv⟩
theorem args2 {vs : List Value} {a b : PV} (h : vs.map abs = [a, b]) : ∃ v w, vs = [v, w] ∧ abs v = a ∧ abs w = b := by
  obtain ⟨v, r, rfl, hv, hr⟩ := List.map_eq_cons_iff.mp h
  obtain ⟨w, rfl, hw⟩ := args1 hr
  exact ⟨v, w, rfl, hv, hw⟩
theorem args3 {vs : List Value} {a b c : PV} (h : vs.map abs = [a, b, c]) : ∃ v w u, vs = [v, w, u] ∧ abs v = a ∧ abs w = b ∧ abs u = c := by
  obtain ⟨v, r, rfl, hv, hr⟩ := List.map_eq_cons_iff.mp h
  obtain ⟨w, u, rfl, hw, hu⟩ := args2 hr
  exact ⟨v, w, u, rfl, hv, hw, hu⟩
theorem kws0 {ks : List (Str × Value)} (h : ks.map (fun p => (p.1, abs p.2)) = []) : ks = [] := List.map_eq_nil_iff.mp h
theorem kws1 {ks : List (Str × Value)} {n : Str} {a : PV} (h : ks.map (fun p => (p.1, abs p.2)) = [(n, a)]) : ∃ v, ks = [(n, v)] ∧ abs v = a := by
  obtain ⟨⟨n', v⟩, r, rfl, hp, hr⟩ := List.map_eq_cons_iff.mp h
  cases List.map_eq_nil_iff.mp hr
  cases hp
  exact ⟨v, rfl, rfl⟩
theorem loc_of {bs : List (Str × PV)} {sc : Scope} (h : (bs.map (·.1)).all (fun x => sc.names.lookup x == some NameKind.local) = true) : ∀ y ∈ bs, sc.names.lookup y.1 = some NameKind.local := fun y hy => by
  have := List.all_eq_true.mp h y.1 (List.mem_map_of_mem hy)
  exact beq_iff_eq.mp this

noncomputable abbrev AndQ (C : Cx) (m : Loc) (QB : Bool → PH → Prop) (r : List Expr) : Bool → PH → Prop := fun b H1 => if b = true then TAnd C m QB r H1 else QB false H1
noncomputable abbrev OrQ (C : Cx) (m : Loc) (QB : Bool → PH → Prop) (r : List Expr) : Bool → PH → Prop := fun b H1 => if b = true then QB true H1 else TOr C m QB r H1
section
variable {C : Cx} {m : Loc} {H : PH} {Q : FL → Loc → PH → Prop} {QB : Bool → PH → Prop} {rest : List Stmt} {v : PV}
theorem sq_next (h : Exs C rest m H Q) : Sq C rest Q .next m H := h
theorem sq_ret (h : Q (.ret v) m H) : Sq C rest Q (.ret v) m H := h
theorem sq_brk (h : Q .brk m H) : Sq C rest Q .brk m H := h
theorem sq_cont (h : Q .cont m H) : Sq C rest Q .cont m H := h
theorem tand_nil (h : QB true H) : TAnd C m QB [] H := h
theorem tand_cons {e : Expr} {r : List Expr} (h : Te C e m H (AndQ C m QB r)) : TAnd C m QB (e :: r) H := h
theorem tor_nil (h : QB false H) : TOr C m QB [] H := h
theorem tor_cons {e : Expr} {r : List Expr} (h : Te C e m H (OrQ C m QB r)) : TOr C m QB (e :: r) H := h
theorem ite_dec {p A B : Prop} [Decidable p] (h1 : p → A) (h2 : ¬ p → B) : if decide p = true then A else B := by
  by_cases h : p
  · rw [if_pos (decide_eq_true h)]; exact h1 h
  · rw [if_neg (by simpa using h)]; exact h2 h
theorem ite_b {b : Bool} {A B : Prop} (h1 : b = true → A) (h2 : b = false → B) : if b = true then A else B := by
  cases b with
  | true => exact h1 rfl
  | false => simpa using h2 rfl
theorem ite_T {A B : Prop} (h : A) : if true = true then A else B := h
theorem ite_F {A B : Prop} (h : B) : if false = true then A else B := h
end
end Mine
end
section
open PySem PySem.W PySem.Calls PySem.Spec PyProof.Rows
set_option Elab.async false
set_option maxRecDepth 100000
set_option linter.unusedVariables false
namespace Mine
section
variable {C : Cx} {R : List (Addr × Obj)} {m : Loc} {H : PH} {s : Shared} {I : Addr} {o o' : Obj} {h' : Heap}
/-- a new object, held aside -/
theorem Sim.hold (S : Sim C R m H s) (o : Obj) (t : Nat) (hf : o.isFreed = false := by rfl) : Sim C ((s.heap.objs.size, o) :: R) m H { s with heap := s.heap.push o, toks := t } ∧ ∀ p ∈ R, p.1 ≠ s.heap.objs.size := by
  obtain ⟨mr, news, S⟩ := S
  have hfr := S.fresh
  have N := S.nw.push S.fr o hf
  have hne : ∀ p ∈ news, p.1 ≠ s.heap.objs.size := fun p hp => Nat.ne_of_lt (Heap.lt_size (S.nw p hp).1)
  refine ⟨⟨mr, (s.heap.objs.size, o) :: news, ?_⟩, fun p hp => hne p (S.rest p hp).1⟩
  obtain ⟨h, t', rfl⟩ := S.st
  refine ⟨⟨h.push o, t, rfl⟩, S.fr.push o, N, fun p hp => ?_, S.loc, fun j y k v hj hk hm => ?_, fun y d hd => ?_, fun a po' ha => ?_⟩
  · rcases List.mem_cons.mp hp with rfl | hp
    · exact ⟨.head _, hfr⟩
    · exact ⟨.tail _ (S.rest p hp).1, (S.rest p hp).2⟩
  · obtain ⟨c, o', w, e1, e2, e3, e4⟩ := S.cel _ _ _ _ hj hk hm
    exact ⟨c, o', w, e1, .tail _ e2, e3, e4⟩
  · obtain ⟨e1, e2, o', w, e3, e4⟩ := S.celS _ _ hd
    refine ⟨e1, fun p hp => ?_, o', w, .tail _ e3, e4⟩
    rcases List.mem_cons.mp hp with rfl | hp
    · exact fun e => hne _ e3 e.symm
    · exact e2 p hp
  · obtain ⟨o', h1, h2⟩ := S.view _ _ ha
    exact ⟨o', .tail _ h1, h2⟩
theorem Sim.held (S : Sim C ((I, o) :: R) m H s) : s.heap.get? I = some o := by
  obtain ⟨mr, news, S⟩ := S
  exact (S.nw _ (S.rest _ (.head _)).1).1
theorem Sim.turn (S : Sim C ((I, o) :: R) m H s) (hR : ∀ p ∈ R, p.1 ≠ I) (hs : Heap.SameBut I s.heap h') (ho : h'.get? I = some o') (t : Nat) : Sim C ((I, o') :: R) m H { s with heap := h', toks := t } := by
  obtain ⟨mr, news, S⟩ := S
  have hm := (S.rest _ (.head _)).1
  have hH := (S.rest _ (.head _)).2
  have hIL := (S.nw _ hm).2.1
  refine ⟨mr, news.map fun p => if p.1 = I then (I, o') else p, ?_⟩
  obtain ⟨h, t', rfl⟩ := S.st
  refine ⟨⟨h', t, rfl⟩, ⟨S.fr.ns.sameBut hs (Ne.symm hIL), fun b ob e => (hs.2 b fun q => ?_).trans (S.fr.keep b ob e), S.fr.above⟩, news_one S.nw hm hs ho, fun p hp => ?_, S.loc, fun j y k v hj hk hm' => ?_, fun y d hd => ?_, fun a po ha => ?_⟩
  · rw [q, (S.nw _ hm).2.2] at e; cases e
  · rcases List.mem_cons.mp hp with rfl | hp
    · exact ⟨mem_one hm, hH⟩
    · exact ⟨mem_other (S.rest p (.tail _ hp)).1 (hR p hp), (S.rest p (.tail _ hp)).2⟩
  · obtain ⟨c, oc, w, e1, e2, e3, e4⟩ := S.cel _ _ _ _ hj hk hm'
    exact ⟨c, oc, w, e1, mem_other e2 fun q => (S.celS _ _ e1).2.1 _ (.head _) q.symm, e3, e4⟩
  · obtain ⟨e1, e2, oc, w, e3, e4⟩ := S.celS _ _ hd
    refine ⟨e1, fun p hp => ?_, oc, w, mem_other e3 fun q => e2 (I, o) (.head _) q.symm, e4⟩
    rcases List.mem_cons.mp hp with rfl | hp
    · exact e2 (I, o) (.head _)
    · exact e2 p (.tail _ hp)
  · obtain ⟨oc, h1, h2⟩ := S.view _ _ ha
    exact ⟨oc, mem_other h1 (fun q => absurd ((q ▸ ha : H I = some po).symm.trans hH) (by simp)), h2⟩
theorem Sim.drop (S : Sim C ((I, o) :: R) m H s) (hR : ∀ p ∈ R, p.1 ≠ I) (hs : Heap.ExtBut I s.heap h') (t : Nat) : Sim C R m H { s with heap := h', toks := t } := by
  obtain ⟨mr, news, S⟩ := S
  have hm := (S.rest _ (.head _)).1
  have hH := (S.rest _ (.head _)).2
  have hIL := (S.nw _ hm).2.1
  have hin : ∀ p : Addr × Obj, p ∈ news → p.1 ≠ I → p ∈ news.filter fun p => p.1 != I := fun p hp hne => List.mem_filter.mpr ⟨hp, by simpa using hne⟩
  refine ⟨mr, news.filter fun p => p.1 != I, ?_⟩
  obtain ⟨h, t', rfl⟩ := S.st
  refine ⟨⟨h', t, rfl⟩, ⟨S.fr.ns.extBut hs (Ne.symm hIL), fun b ob e => hs b ob (fun q => ?_) (S.fr.keep b ob e), S.fr.above⟩, fun p hp => ?_, fun p hp => ?_, S.loc, fun j y k v hj hk hm' => ?_, fun y d hd => ?_, fun a po ha => ?_⟩
  · rw [q, (S.nw _ hm).2.2] at e; cases e
  · obtain ⟨h1, h2⟩ := List.mem_filter.mp hp
    exact ⟨hs _ _ (by simpa using h2) (S.nw p h1).1, (S.nw p h1).2⟩
  · exact ⟨hin p (S.rest p (.tail _ hp)).1 (hR p hp), (S.rest p (.tail _ hp)).2⟩
  · obtain ⟨c, oc, w, e1, e2, e3, e4⟩ := S.cel _ _ _ _ hj hk hm'
    exact ⟨c, oc, w, e1, hin _ e2 fun q => (S.celS _ _ e1).2.1 _ (.head _) q.symm, e3, e4⟩
  · obtain ⟨e1, e2, oc, w, e3, e4⟩ := S.celS _ _ hd
    exact ⟨e1, fun p hp => e2 p (.tail _ hp), oc, w, hin _ e3 fun q => e2 _ (.head _) q.symm, e4⟩
  · obtain ⟨oc, h1, h2⟩ := S.view _ _ ha
    exact ⟨oc, hin _ h1 (fun q => absurd ((show H I = some po from (show a = I from q) ▸ ha).symm.trans hH) (by simp)), h2⟩
end

/-- an iterator at I: its items, what it is at each place -/
structure Iter (C : Cx) (I : Addr) (item : Nat → Option PV) (It : Nat → Obj → Prop) (Hc : PH → Prop) : Prop where
  step : ∀ k z R m H s o Q' (E' : Value → Shared → Prop), item k = some z → It k o → Hc H → Sim C ((I, o) :: R) m H s →
    (∀ v h' o' t, abs v = z → It (k + 1) o' → h'.get? I = some o' → Heap.SameBut I s.heap h' → Q' (some v) { s with heap := h', toks := t }) → wpAny (model C.prog C.w) C.A (pyNext (.ref I)) Q' E' s
  stop : ∀ k R m H s o Q' (E' : Value → Shared → Prop), item k = none → It k o → Hc H → Sim C ((I, o) :: R) m H s →
    (∀ h' t, Heap.ExtBut I s.heap h' → Q' none { s with heap := h', toks := t }) → wpAny (model C.prog C.w) C.A (pyNext (.ref I)) Q' E' s

theorem for_gen {C : Cx} {R : List (Addr × Obj)} {m : Loc} {H : PH} {s : Shared} {Q : FL → Loc → PH → Prop} {Q' : Flow → Shared → Prop} (O : C.Ok) {i : Nat} {x : Str} {px : Pos} {body : List Stmt} {I : Addr} {o : Obj} {item : Nat → Option PV} {It : Nat → Obj → Prop} {Hc : PH → Prop} (hx : Slot' C x i)
    (W : Iter C I item It Hc) (n : Nat) (hn : item n = none) (hn' : ∀ k, k < n → (item k).isSome = true) (J : Nat → Loc → PH → Prop) (hJ : ∀ k m H, J k m H → Hc H)
    (turn : ∀ k z m H, item k = some z → J k m H → Exs C body (m.set i (some z)) H (fun f m2 H2 => match f with
      | .next | .cont => J (k + 1) m2 H2
      | .brk => Q .next m2 H2
      | .ret v => Q (.ret v) m2 H2))
    (fin : ∀ m H, J n m H → Q .next m H) (S : Sim C ((I, o) :: R) m H s) (hR : ∀ p ∈ R, p.1 ≠ I) (ho : It 0 o) (h0 : J 0 m H)
    (hQ : ∀ f m' H' s', Sim C R m' H' s' → Q (absF f) m' H' → Q' f s') :
    codeAny (model C.prog C.w) C.A (.forLoop (.Name x px) (.ref I) body [] C.env) (fun r s' => match r with | .ok f => Q' f s' | .error e => cameBackBy (model C.prog C.w) C.A C.env C.E e s') s := by
  refine codeAny_forLoop (R := fun r s' => match r with | .ok f => Q' f s' | .error e => cameBackBy (model C.prog C.w) C.A C.env C.E e s') (fun j s' => ∃ k m H o, j = n + 1 - k ∧ k ≤ n ∧ Sim C ((I, o) :: R) m H s' ∧ It k o ∧ J k m H) ?_ (n + 1) ⟨0, m, H, o, rfl, Nat.zero_le _, S, ho, h0⟩
  rintro j s' ⟨k, m, H, o, rfl, hk, S, ho, hj⟩
  cases hz : item k with
  | none =>
    have hkn : k = n := by
      rcases Nat.lt_or_ge k n with h | h
      · have := hn' k h; rw [hz] at this; cases this
      · exact Nat.le_antisymm hk h
    subst hkn
    refine W.stop k R m H s' o _ _ hz ho (hJ _ _ _ hj) S fun h' t hs => ?_
    exact wpAny_execs_nil (hQ .next _ _ _ (S.drop hR hs t) (fin _ _ hj))
  | some z =>
    have hlt : k < n := by
      rcases Nat.lt_or_ge k n with h | h
      · exact h
      · have : k = n := Nat.le_antisymm hk h
        rw [this, hn] at hz; cases hz
    refine W.step k z R m H s' o _ _ hz ho (hJ _ _ _ hj) S fun v h' o' t hv ho' hg hs => ?_
    have S1 := S.turn hR hs hg t
    refine wpAny_assign_Name ?_
    refine wpAny_passesOwn O.passes (store_any O hx S1 fun s2 S2 => ?_)
    refine wpAny_passesOwn O.passes (turn k z m H hz hj _ s2 _ (hv ▸ S2) fun f m2 H2 s3 S3 q => ?_)
    cases f with
    | next => exact ⟨n + 1 - (k + 1), by omega, k + 1, m2, H2, o', rfl, hlt, S3, ho', q⟩
    | cont => exact ⟨n + 1 - (k + 1), by omega, k + 1, m2, H2, o', rfl, hlt, S3, ho', q⟩
    | brk =>
      have hSb : Sim C R m2 H2 s3 := by
        obtain ⟨hh, tt, e⟩ := (show ∃ hh tt, s3 = { C.s₀ with heap := hh, toks := tt } from by obtain ⟨_, _, S3⟩ := S3; exact S3.st)
        have := S3.drop hR (Heap.ExtBut.refl I s3.heap) s3.toks
        exact this
      exact hQ .next _ _ _ hSb q
    | ret v =>
      have hSb : Sim C R m2 H2 s3 := S3.drop hR (Heap.ExtBut.refl I s3.heap) s3.toks
      exact hQ _ _ _ _ hSb q

theorem iter_list {C : Cx} (O : C.Ok) {I a : Addr} {xs : List PV} : Iter C I (fun k => xs[k]?) (fun k o => o.cls = .type "list_iterator" ∧ o.data = .fields #[.ref a, .int k 0]) (fun H => H a = some (.list xs)) where
  step := fun k z R m H s o Q' E' hz ho hc S h => by
    obtain ⟨vs, hl, hx⟩ := S.list hc
    obtain ⟨h1, h2⟩ := ho
    subst hx
    rw [List.getElem?_map] at hz
    cases hy : vs.toList[k]? with
    | none => rw [hy] at hz; cases hz
    | some y =>
      rw [hy] at hz
      cases hz
      refine wpAny_pyNext_list_item (l := a) (i := k) ⟨o, S.held, h1, h2⟩ hl (by simpa using hy) fun h' hit hs => ?_
      obtain ⟨o', g1, g2, g3⟩ := hit
      exact h y h' o' s.toks rfl ⟨g2, g3⟩ g1 hs
  stop := fun k R m H s o Q' E' hz ho hc S h => by
    obtain ⟨vs, hl, hx⟩ := S.list hc
    obtain ⟨h1, h2⟩ := ho
    subst hx
    rw [List.getElem?_map] at hz
    cases hy : vs.toList[k]? with
    | some y => rw [hy] at hz; cases hz
    | none => exact wpAny_pyNext_list_end O.hand (l := a) (i := k) ⟨o, S.held, h1, h2⟩ hl (by simpa using hy) fun h' hs => h h' s.toks hs
theorem iter_bytes {C : Cx} (O : C.Ok) {I : Addr} {b : List UInt8} {t : Tok} : Iter C I (fun k => b[k]?.map fun c => PV.int c.toNat) (fun k o => o.cls = .type "bytes_iterator" ∧ o.data = .fields #[.bytes b.toArray t, .int k 0]) (fun _ => True) where
  step := fun k z R m H s o Q' E' hz ho hc S h => by
    obtain ⟨h1, h2⟩ := ho
    cases hy : b[k]? with
    | none => rw [hy] at hz; cases hz
    | some y =>
      rw [hy] at hz
      cases hz
      refine KBw.next_item (b := b.toArray) (t := t) (i := k) ⟨o, S.held, h1, h2⟩ (by simpa using hy) fun h' hit hs => ?_
      obtain ⟨o', g1, g2, g3⟩ := hit
      exact h _ h' o' _ rfl ⟨g2, g3⟩ g1 hs
  stop := fun k R m H s o Q' E' hz ho hc S h => by
    obtain ⟨h1, h2⟩ := ho
    cases hy : b[k]? with
    | some y => rw [hy] at hz; cases hz
    | none => exact KBw.next_end O.hand (b := b.toArray) (t := t) (i := k) ⟨o, S.held, h1, h2⟩ (by simpa using hy) fun h' hs => h h' s.toks hs

section
variable {C : Cx} {m : Loc} {H : PH} {Q : FL → Loc → PH → Prop} {i : Nat} {x : Str} {px pos : Pos} {iter : Expr} {body : List Stmt}
noncomputable abbrev For0Q (o : PV) (m : Loc) (J : Nat → Loc → PH → Prop) : PV → PH → Prop := fun v H1 => v = o ∧ J 0 m H1
noncomputable abbrev ForQ (J : Nat → Loc → PH → Prop) (k : Nat) (Q : FL → Loc → PH → Prop) (f : FL) (m2 : Loc) (H2 : PH) : Prop := match f with
  | .next | .cont => J (k + 1) m2 H2
  | .brk => Q .next m2 H2
  | .ret v => Q (.ret v) m2 H2
theorem ex_for_list (O : C.Ok) (hx : Slot' C x i) (xs : List PV) (a : Addr) (J : Nat → Loc → PH → Prop)
    (h : Ev C iter m H (For0Q (.ref a) m J)) (hJ : ∀ k m H, J k m H → H a = some (.list xs))
    (turn : ∀ k z m H, xs[k]? = some z → J k m H → Exs C body (m.set i (some z)) H (ForQ J k Q))
    (fin : ∀ m H, J xs.length m H → Q .next m H) (hs : ∀ v, foldedSetIterable iter C.env v = pure v := by intro _; rfl) : Ex1 C (.For (.Name x px) iter body [] pos) m H Q := by
  intro R s Q' S hQ
  refine wpAny_For (h R s _ S fun v H1 s1 S1 q => ?_) hs
  obtain ⟨e, hj⟩ := q
  cases abs_ref e
  obtain ⟨vs, hl, _⟩ := S1.list (hJ _ _ _ hj)
  refine wpAny_pyIter_list hl ?_
  obtain ⟨S2, hR⟩ := S1.hold { cls := .type "list_iterator", data := .fields #[.ref a, .int 0 0] } s1.toks
  exact for_gen O hx (iter_list O) xs.length (by simp) (fun k hk => by simp [hk]) J hJ turn fin S2 hR ⟨rfl, rfl⟩ hj hQ
theorem ex_for_bytes (O : C.Ok) (hx : Slot' C x i) (b : List UInt8) (J : Nat → Loc → PH → Prop)
    (h : Ev C iter m H (For0Q (.bytes b) m J))
    (turn : ∀ k c m H, b[k]? = some c → J k m H → Exs C body (m.set i (some (.int c.toNat))) H (ForQ J k Q))
    (fin : ∀ m H, J b.length m H → Q .next m H) (hs : ∀ v, foldedSetIterable iter C.env v = pure v := by intro _; rfl) : Ex1 C (.For (.Name x px) iter body [] pos) m H Q := by
  intro R s Q' S hQ
  refine wpAny_For (h R s _ S fun v H1 s1 S1 q => ?_) hs
  obtain ⟨e, hj⟩ := q
  obtain ⟨t, rfl⟩ := abs_bytes e
  refine KBw.pyIter_bytes ?_
  obtain ⟨S2, hR⟩ := S1.hold { cls := .type "bytes_iterator", data := .fields #[.bytes b.toArray t, .int 0 0] } s1.toks
  refine for_gen O hx (iter_bytes O (b := b) (t := t)) b.length (by simp) (fun k hk => by simp [hk]) J (fun _ _ _ _ => trivial) (fun k z m H hz hj => ?_) fin S2 hR ⟨rfl, rfl⟩ hj hQ
  cases hy : b[k]? with
  | none => rw [hy] at hz; cases hz
  | some c =>
    rw [hy] at hz
    cases hz
    exact turn k c m H hy hj
end
end Mine
end
section
open PySem PySem.W PySem.Calls PySem.Spec PyProof.Rows
set_option Elab.async false
set_option maxRecDepth 100000
set_option linter.unusedVariables false
namespace Mine
/-- an expression that makes no object: its value at a heap -/
noncomputable def PE {α β : Type} (prog : Program) (w : World) (A : Around) (r : α → β) (t : Sem α) (h : Heap) (z : β) : Prop :=
  ∀ (s : Shared) (Q : α → Shared → Prop) (E : Value → Shared → Prop), s.heap = h → (∀ v tk, r v = z → Q v { s with toks := tk }) → wpAny (model prog w) A t Q E s
section
variable {prog : Program} {w : World} {A : Around} {env : Env} {h : Heap} {z a b : PV} {k : Nat} {pos : Pos} {i j : Int} {x : Str} {l r e test body orelse slice : Expr}
theorem pe_int : PE prog w A abs (eval (.Constant (.int i) k pos) env) h (.int i) := fun s Q E hs hQ => wpAny_Constant_int (hQ _ _ rfl)
theorem pe_local {m : Str → Option Value} {v : Value} (hk : env.scope.kind = .function) (hx : env.kindOf x = some .local) (hn : h.Ns env.locals m) (hv : m x = some v) (hz : abs v = z) (hd : (x == ("__debug__" : Str)) = false := by decide) :
    PE prog w A abs (eval (.Name x pos) env) h z := fun s Q E hs hQ => wpAny_Name (wpAny_loadName_local hk hx (hs ▸ hn) hv (hQ v s.toks hz)) hd
theorem pe_cell {c : Addr} {v : Value} (hk : env.scope.kind = .function) (hx : env.kindOf x = some .cell) (hc : env.cells.lookup x = some c) (hv : h.IsCell c (some v)) (hz : abs v = z) (hd : (x == ("__debug__" : Str)) = false := by decide) :
    PE prog w A abs (eval (.Name x pos) env) h z := fun s Q E hs hQ => wpAny_Name (wpAny_loadName_cell hk hx hc (hs ▸ hv) (hQ v s.toks hz)) hd
/-- an operation that makes no object -/
noncomputable def POp (prog : Program) (w : World) (A : Around) (f : Value → Value → Sem Value) (a b : PV) (h : Heap) (z : PV) : Prop := ∀ v u, abs v = a → abs u = b → PE prog w A abs (f v u) h z
theorem pe_bin {op : Operator} (hl : PE prog w A abs (eval l env) h a) (hr : PE prog w A abs (eval r env) h b) (ho : POp prog w A (binaryOp op) a b h z) : PE prog w A abs (eval (.BinOp l op r pos) env) h z := fun s Q E hs hQ =>
  wpAny_BinOp (hl s _ E hs fun v tk hv => hr _ _ E hs fun u tk' hu => ho v u hv hu _ _ E hs fun y tk'' hy => hQ y tk'' hy)
theorem pb_cmp {op : CmpOp} {c : Bool} (hl : PE prog w A abs (eval l env) h a) (hr : PE prog w A abs (eval r env) h b) (ho : POp prog w A (compareOp op) a b h (.bool c)) (hm : behindInMarks op r = false := by with_unfolding_all rfl) :
    PE prog w A id (isTrue (.Compare l [op] [r] pos) env (eval (.Compare l [op] [r] pos) env)) h c := fun s Q E hs hQ =>
  wpAny_isTrue_Compare1 (hl s _ E hs fun v tk hv => hr _ _ E hs fun u tk' hu => ho v u hv hu _ _ E hs fun y tk'' hy => by
    rw [abs_bool hy]
    exact wpAny_truthy_bool (hQ c tk'' rfl)) hm
theorem pe_ifexp {c : Bool} (ht : PE prog w A id (isTrue test env (eval test env)) h c) (h1 : c = true → PE prog w A abs (eval body env) h z) (h2 : c = false → PE prog w A abs (eval orelse env) h z) : PE prog w A abs (eval (.IfExp test body orelse pos) env) h z := fun s Q E hs hQ =>
  wpAny_IfExp (ht s _ E hs fun v tk hv => by
    have hv' : v = c := hv
    subst hv'
    cases v with
    | true => exact h1 rfl _ _ E hs fun y tk' hy => hQ y tk' hy
    | false => exact h2 rfl _ _ E hs fun y tk' hy => hQ y tk' hy)
theorem pb_or3 {e1 e2 e3 : Expr} {c1 c2 c3 : Bool} (h1 : PE prog w A id (isTrue e1 env (eval e1 env)) h c1) (h2 : c1 = false → PE prog w A id (isTrue e2 env (eval e2 env)) h c2) (h3 : c1 = false → c2 = false → PE prog w A id (isTrue e3 env (eval e3 env)) h c3) :
    PE prog w A id (isTrue (.BoolOp .Or [e1, e2, e3] pos) env (eval (.BoolOp .Or [e1, e2, e3] pos) env)) h (c1 || (c2 || c3)) := fun s Q E hs hQ => by
  refine wpAny_isTrue_BoolOp (wpAny_allTrue_Or_cons (h1 s _ E hs fun v tk hv => ?_))
  have hv' : v = c1 := hv
  subst hv'
  cases v with
  | true => exact hQ true tk rfl
  | false =>
    refine wpAny_allTrue_Or_cons (h2 rfl _ _ E hs fun v tk hv => ?_)
    have hv' : v = c2 := hv
    subst hv'
    cases v with
    | true => exact hQ true tk rfl
    | false =>
      refine wpAny_allTrue_Or_cons (h3 rfl rfl _ _ E hs fun v tk hv => ?_)
      have hv' : v = c3 := hv
      subst hv'
      cases v with
      | true => exact hQ true tk rfl
      | false => exact wpAny_allTrue_Or_nil (hQ false tk rfl)
theorem pop_add : POp prog w A (binaryOp .Add) (.int i) (.int j) h (.int (i + j)) := by
  intro v u hv hu s Q E hs hQ
  obtain ⟨t, rfl⟩ := abs_int hv
  obtain ⟨t', rfl⟩ := abs_int hu
  with_reducible refine P.add_int ?_
  exact hQ _ _ rfl
theorem pop_sub : POp prog w A (binaryOp .Sub) (.int i) (.int j) h (.int (i - j)) := by
  intro v u hv hu s Q E hs hQ
  obtain ⟨t, rfl⟩ := abs_int hv
  obtain ⟨t', rfl⟩ := abs_int hu
  with_reducible refine P.sub_int ?_
  exact hQ _ _ rfl
theorem pop_mod (hj : j ≠ 0) : POp prog w A (binaryOp .Mod) (.int i) (.int j) h (.int (i.fmod j)) := by
  intro v u hv hu s Q E hs hQ
  obtain ⟨t, rfl⟩ := abs_int hv
  obtain ⟨t', rfl⟩ := abs_int hu
  with_reducible refine mod_int' hj ?_
  exact hQ _ _ rfl
theorem pop_div (hj : j ≠ 0) (hb : j.natAbs < 2 ^ 1000) : POp prog w A (binaryOp .FloorDiv) (.int i) (.int j) h (.int (i.fdiv j)) := by
  intro v u hv hu s Q E hs hQ
  obtain ⟨t, rfl⟩ := abs_int hv
  obtain ⟨t', rfl⟩ := abs_int hu
  with_reducible refine floordiv_int hj ?_ (.inl (noPy hj hb))
  exact hQ _ _ rfl
theorem pop_pow (hj : 0 ≤ j) (hb : (Builtin.Int.intBits i : Int) * j ≤ 2 ^ 27) : POp prog w A (binaryOp .Pow) (.int i) (.int j) h (.int (i ^ j.toNat)) := by
  intro v u hv hu s Q E hs hQ
  obtain ⟨t, rfl⟩ := abs_int hv
  obtain ⟨t', rfl⟩ := abs_int hu
  with_reducible refine pow_int hj hb ?_
  exact hQ _ _ rfl
theorem pop_lt : POp prog w A (compareOp .Lt) (.int i) (.int j) h (.bool (decide (i < j))) := by
  intro v u hv hu s Q E hs hQ
  obtain ⟨t, rfl⟩ := abs_int hv
  obtain ⟨t', rfl⟩ := abs_int hu
  with_reducible refine P.lt_int ?_
  exact hQ _ s.toks rfl
theorem pop_eq : POp prog w A (compareOp .Eq) (.int i) (.int j) h (.bool (i == j)) := by
  intro v u hv hu s Q E hs hQ
  obtain ⟨t, rfl⟩ := abs_int hv
  obtain ⟨t', rfl⟩ := abs_int hu
  with_reducible refine P.eq_int ?_
  exact hQ _ s.toks rfl
theorem pop_ne : POp prog w A (compareOp .NotEq) (.int i) (.int j) h (.bool (i != j)) := by
  intro v u hv hu s Q E hs hQ
  obtain ⟨t, rfl⟩ := abs_int hv
  obtain ⟨t', rfl⟩ := abs_int hu
  with_reducible refine P.ne_int ?_
  exact hQ _ s.toks rfl
theorem pe_sub (hl : PE prog w A abs (eval e env) h a) (hr : PE prog w A abs (eval slice env) h b) (ho : POp prog w A (subscriptTail e slice) a b h z) : PE prog w A abs (eval (.Subscript e slice pos) env) h z := fun s Q E hs hQ =>
  Subscript_ (hl s _ E hs fun v tk hv => hr _ _ E hs fun u tk' hu => ho v u hv hu _ _ E hs fun y tk'' hy => hQ y tk'' hy)
theorem pop_str {y : List Nat} (h0 : 0 ≤ i) (h1 : i < y.length) (hl : y.length ≤ 16777216) : POp prog w A (subscriptTail e slice) (.str y) (.int i) h (.str [y.getD i.toNat 0]) := by
  intro v u hv hu s Q E hs hQ
  obtain ⟨t, rfl⟩ := abs_str hv
  obtain ⟨t', rfl⟩ := abs_int hu
  obtain ⟨ops, ho⟩ := subscripted_ops slice (.str ⟨y.toArray⟩ t) (.int i t')
  have hfit : fitsSsize i = true := by
    unfold fitsSsize
    simp
    omega
  have hit : ItemOn (model prog w) A E (.str ⟨y.toArray⟩ t) (.int i t') Q s := by
    refine SB.item hfit (charAt_isSome (by simp [PySem.Str.length]; omega) (by simpa [PySem.Str.length] using h1)) (hQ _ _ ?_)
    show PV.str (Txt.item ⟨y.toArray⟩ i).cps.toList = _
    rw [item_list h0 h1]
  obtain ⟨T, id, hl, hT, hg⟩ := hit
  exact tail_any hT hl hg ho
theorem pop_list {c : Addr} {vs : Array Value} {u : Value} (hL : h.IsList c vs) (h0 : 0 ≤ i) (h1 : i < 2 ^ 63) (hx : vs[i.toNat]? = some u) : POp prog w A (subscriptTail e slice) (.ref c) (.int i) h (abs u) := by
  intro v y hv hy s Q E hs hQ
  cases abs_ref hv
  obtain ⟨t', rfl⟩ := abs_int hy
  subst hs
  obtain ⟨ops, ho⟩ := subscripted_ops slice (.ref c) (.int i t')
  exact tail_any hL.typeIs slot_list_getitem.lookup (wpAny_getItem_list hL h0 h1 hx (hQ _ s.toks rfl)) ho
end
end Mine
end
section
open PySem PySem.W PySem.Calls PySem.Spec PyProof.Rows
set_option Elab.async false
set_option maxRecDepth 100000
set_option linter.unusedVariables false
namespace Mine

noncomputable def cloGo (env : Env) : List (Str × NameKind) → List (Str × Addr) → List (Str × Addr)
  | [], acc => acc
  | (n, k) :: r, acc => if (k == NameKind.free) = true then cloGo env r ((n, (env.cells.lookup n).getD 0) :: acc) else cloGo env r acc
theorem clo_forIn {env : Env} : ∀ (l : List (Str × NameKind)) (acc : List (Str × Addr)), (∀ y ∈ l, y.2 = .free → ∃ c, env.cells.lookup y.1 = some c) →
    (forIn l acc (fun x cs => if (x.2 == NameKind.free) = true then (do let a ← cellOf env x.1; pure (ForInStep.yield ((x.1, a) :: cs))) else pure (ForInStep.yield cs)) : Sem (List (Str × Addr))) = pure (cloGo env l acc)
  | [], acc, _ => rfl
  | (n, k) :: r, acc, h => by
    rw [List.forIn_cons]
    by_cases hk : (k == NameKind.free) = true
    · obtain ⟨c, hc⟩ := h (n, k) (.head _) (beq_iff_eq.mp hk)
      have hce : cellOf env n = pure c := by unfold cellOf; rw [hc]
      simp only [hk, if_true, hce, pure_bind]
      rw [clo_forIn r _ fun y hy => h y (.tail _ hy)]
      conv => rhs; unfold cloGo
      rw [if_pos hk, hc]
      rfl
    · simp only [hk, pure_bind, Bool.false_eq_true, if_false]
      rw [clo_forIn r _ fun y hy => h y (.tail _ hy)]
      conv => rhs; unfold cloGo
      rw [if_neg hk]
theorem closure_is {scope : Scope} {env : Env} (h : ∀ y ∈ scope.names, y.2 = .free → ∃ c, env.cells.lookup y.1 = some c) : closureFor scope env = pure (cloGo env scope.names []) := by
  have := clo_forIn scope.names [] h
  unfold closureFor
  simp only [bind_pure]
  rw [← this]
theorem cloGo_mem {env : Env} : ∀ (l : List (Str × NameKind)) (acc : List (Str × Addr)), (∀ y ∈ l, y.2 = .free → ∃ c, env.cells.lookup y.1 = some c) → (∀ p ∈ acc, env.cells.lookup p.1 = some p.2) → (∀ p ∈ cloGo env l acc, env.cells.lookup p.1 = some p.2) ∧ (∀ y, ((y, NameKind.free) ∈ l ∨ y ∈ acc.map (·.1)) → y ∈ (cloGo env l acc).map (·.1))
  | [], acc, _, h2 => ⟨h2, fun y hy => hy.resolve_left (fun h => nomatch h)⟩
  | (n, k) :: r, acc, h1, h2 => by
    unfold cloGo
    split
    · rename_i hk
      obtain ⟨c, hc⟩ := h1 (n, k) (.head _) (beq_iff_eq.mp hk)
      obtain ⟨g1, g2⟩ := cloGo_mem r ((n, (env.cells.lookup n).getD 0) :: acc) (fun y hy => h1 y (.tail _ hy)) (fun p hp => by
        rcases List.mem_cons.mp hp with rfl | hp
        · simp [hc]
        · exact h2 p hp)
      refine ⟨g1, fun y hy => g2 y ?_⟩
      rcases hy with hy | hy
      · rcases List.mem_cons.mp hy with e | hy
        · cases e; exact .inr (by simp)
        · exact .inl hy
      · exact .inr (by simp [hy])
    · rename_i hk
      obtain ⟨g1, g2⟩ := cloGo_mem r acc (fun y hy => h1 y (.tail _ hy)) h2
      refine ⟨g1, fun y hy => g2 y ?_⟩
      rcases hy with hy | hy
      · rcases List.mem_cons.mp hy with e | hy
        · cases e; exact absurd rfl hk
        · exact .inl hy
      · exact .inr hy
theorem lookup_all {l : List (Str × Addr)} {f : Str → Option Addr} (h : ∀ p ∈ l, f p.1 = some p.2) {y : Str} (hy : y ∈ l.map (·.1)) : l.lookup y = f y := by
  induction l with
  | nil => cases hy
  | cons p r ih =>
    obtain ⟨n, c⟩ := p
    rw [List.lookup_cons]
    by_cases e : y = n
    · subst e
      simp only [beq_self_eq_true]
      exact (h (y, c) (.head _)).symm
    · rw [beq_false_of_ne e]
      simp only [List.map_cons, List.mem_cons] at hy
      exact ih (fun p hp => h p (.tail _ hp)) (hy.resolve_left e)
theorem lookup_relabel_free {env : Env} (hk : env.scope.kind = .function) {x : Str} (hc : env.kindOf x = some .cell) : ∀ {names : List (Str × NameKind)}, names.lookup x = some .free →
    (names.map fun (n, k) => if (k == NameKind.free && env.scope.kind == .function && env.kindOf n == some .cell) then (n, NameKind.cell) else (n, k)).lookup x = some .cell
  | [], h => by simp at h
  | (n, k) :: r, h => by
    have ih := @lookup_relabel_free env hk x hc r
    show List.lookup x ((if (k == NameKind.free && env.scope.kind == .function && env.kindOf n == some .cell) = true then (n, NameKind.cell) else (n, k)) :: _) = _
    by_cases e : x = n
    · subst e
      rw [List.lookup_cons, beq_self_eq_true] at h
      cases h
      rw [if_pos (by rw [hk, hc]; rfl), List.lookup_cons, beq_self_eq_true]
    · rw [List.lookup_cons, beq_false_of_ne e] at h
      split <;> (rw [List.lookup_cons, beq_false_of_ne e]; exact ih h)

/-- what an element of a comprehension sees -/
structure CompEnv (C : Cx) (scope : Scope) (x : Str) (m : Loc) (H : PH) (env' : Env) (h : Heap) (z : PV) : Prop where
  kind : env'.scope.kind = .function
  var : env'.kindOf x = some .local ∧ ∃ m₃ w, h.Ns env'.locals m₃ ∧ m₃ x = some w ∧ abs w = z
  cell : ∀ (y : Str) (i : Nat) (v : PV), scope.names.lookup y = some .free → (y, NameKind.free) ∈ scope.names → C.env.scope.names[i]? = some (y, NameKind.cell) → m[i]? = some (some v) →
    env'.kindOf y = some .cell ∧ ∃ c w, env'.cells.lookup y = some c ∧ h.IsCell c (some w) ∧ abs w = v
  list : ∀ a xs, H a = some (.list xs) → ∃ vs : Array Value, h.IsList a vs ∧ vs.toList.map abs = xs

noncomputable def ifsOk (C : Cx) (ifs : List Expr) (env' : Env) (h : Heap) (b : Bool) : Prop := match ifs with
  | [] => b = true
  | [c] => PE C.prog C.w C.A id (isTrue c env' (eval c env')) h b
  | _ => False
/-- what is walked -/
noncomputable def Src (H : PH) (v : PV) (items : List PV) : Prop := ∃ a, v = .ref a ∧ (H a = some (.list items) ∨ ∃ n : Int, 0 ≤ n ∧ n ≤ 16777216 ∧ H a = some (.range n) ∧ items = (List.range n.toNat).map fun k => .int (k : Nat))

structure CompOk (C : Cx) (scope : Scope) (x : Str) : Prop where
  cell : ∀ y ∈ scope.names, y.2 ≠ .cell
  kind : scope.kind = .function
  names : ∀ y ∈ scope.names, y.2 = .local → scope.names.lookup y.1 = some .local
  x : scope.names.lookup x = some .local
  free : ∀ y ∈ scope.names, y.2 = .free → ∃ c, C.env.cells.lookup y.1 = some c

theorem paired_abs {fe : PV → PV} : ∀ {l₁ l₂ : List Value}, Paired (fun v y => abs y = fe (abs v)) l₁ l₂ → l₂.map abs = (l₁.map abs).map fe
  | _, _, .nil => rfl
  | _, _, .cons h r => by simp only [List.map_cons, h, paired_abs r]
theorem filter_abs (pe : PV → Bool) : ∀ l : List Value, (l.filter fun v => pe (abs v)).map abs = (l.map abs).filter pe
  | [] => rfl
  | v :: r => by
    simp only [List.filter_cons, List.map_cons]
    split <;> simp_all [filter_abs pe r]

/-- the source, walked -/
theorem src_walk {C : Cx} (O : C.Ok) {R : List (Addr × Obj)} {m : Loc} {H : PH} {s : Shared} (S : Sim C R m H s) {v : Value} {items : List PV} (hs : Src H (abs v) items) (hl : items.length ≤ 16777216) {Q : Value → Shared → Prop} {E : Value → Shared → Prop}
    (h : ∀ I o fp n P St, Walks C.prog C.w C.A I fp [I] n P St → I = s.heap.objs.size → n ≤ sizeLine → St 0 (s.heap.push o) → (∀ b ∈ fp, b < (s.heap.push o).objs.size) →
      (∀ vs : List Value, vs.length = n → (∀ j v, vs[j]? = some v → P j v) → vs.map abs = items) → (∀ i v, P i v → i < n → items[i]? = some (abs v)) → (∀ i v, P i v → abs v ∈ items) → Q (.ref I) { s with heap := s.heap.push o }) :
    wpAny (model C.prog C.w) C.A (pyIter v) Q E s := by
  obtain ⟨a, e, hs⟩ := hs
  cases abs_ref e
  rcases hs with hs | ⟨n, hn0, hn, hs, rfl⟩
  · obtain ⟨vs, hL, rfl⟩ := S.list hs
    have hne : a ≠ s.heap.objs.size := by
      obtain ⟨o, ho, _⟩ := hL
      exact Nat.ne_of_lt (Heap.lt_size ho)
    refine wpAny_pyIter_list hL (h _ _ _ _ _ _ (Walks.list O.hand s.heap.objs.size a hne vs) rfl (by simpa [sizeLine] using hl) ⟨⟨_, Heap.get?_push_size _ rfl, rfl, rfl⟩, hL.push _⟩ ?_ ?_ ?_ ?_)
    · intro b hb
      rcases List.mem_cons.mp hb with rfl | hb
      · rw [Heap.size_push]; exact Nat.lt_succ_self _
      · rw [List.mem_singleton.mp hb, Heap.size_push]
        obtain ⟨o, ho, _⟩ := hL
        exact Nat.lt_succ_of_lt (Heap.lt_size ho)
    · intro us hus hP
      congr 1
      apply List.ext_getElem?
      intro j
      cases hj : us[j]? with
      | none =>
        have : us.length ≤ j := by simpa using hj
        symm
        simp
        omega
      | some u =>
        have := hP j u hj
        simpa using this.symm
    · intro i v hv hi
      rw [List.getElem?_map]
      have : vs.toList[i]? = some v := by simpa using hv
      rw [this]; rfl
    · intro i v hv
      refine List.mem_map.mpr ⟨v, ?_, rfl⟩
      have : vs.toList[i]? = some v := by simpa using hv
      exact List.mem_of_getElem? this
  · obtain ⟨o, ho, t, u, v, rfl⟩ := S.get hs
    have hr : IsRange s.heap a 0 n 1 t u v := ho
    have hsz : Builtin.Range.rangeSize 0 n 1 = (n.toNat : Int) := by simpa using rangeSize_nat 0 n
    have hsm : Builtin.Range.small 0 n 1 = true := small_one (by decide) (by decide) (by omega) (by omega)
    refine wpAny_pyIter_range hr hsm ?_
    rw [hsz]
    refine h _ _ _ _ _ _ (Walks.range O.hand s.heap.objs.size 0 1 n.toNat).bound rfl (by unfold sizeLine; omega) ?_ ?_ ?_ ?_ ?_
    · have := Heap.get?_push_size s.heap (o := { cls := .type "range_iterator", data := .fields #[rawInt 0, rawInt (n.toNat : Int), rawInt 1] }) rfl
      simpa using this
    · intro b hb
      rw [List.mem_singleton.mp hb, Heap.size_push]
      exact Nat.lt_succ_self _
    · intro us hus hP
      apply List.ext_getElem?
      intro j
      rw [List.getElem?_map, List.getElem?_map]
      cases hj : us[j]? with
      | none =>
        have : us.length ≤ j := by simpa using hj
        rw [List.getElem?_eq_none (by simp; omega)]
        rfl
      | some y =>
        obtain ⟨_, t, rfl⟩ := hP j y hj
        have hjl : j < us.length := (List.getElem?_eq_some_iff.mp hj).1
        rw [List.getElem?_range (by omega)]
        simp [abs]
    · rintro i v ⟨_, t, rfl⟩ hi
      rw [List.getElem?_map, List.getElem?_range hi]
      simp [abs]
    · rintro i v ⟨hi, t, rfl⟩
      exact List.mem_map.mpr ⟨i, List.mem_range.mpr hi, by simp [abs]⟩
end Mine
end
section
open PySem PySem.W PySem.Calls PySem.Spec PyProof.Rows
set_option Elab.async false
set_option maxRecDepth 100000
set_option linter.unusedVariables false
namespace Mine

/-- behind the walk of a comprehension: the heap has grown, the new list stands -/
theorem Sim.grow {C : Cx} {R : List (Addr × Obj)} {m : Loc} {H : PH} {s : Shared} (S : Sim C R m H s) {I D : Addr} {o : Obj} {h' : Heap} {ys : Array Value} {xs : List PV} (t : Nat) (hI : I = s.heap.objs.size) (hD : (s.heap.push o).get? D = none)
    (hp : h'.PlainList D ys) (hx : ys.toList.map abs = xs) (hk : ∀ b ob, b ∉ [I] → (s.heap.push o).get? b = some ob → h'.get? b = some ob) :
    H D = none ∧ Sim C R m (H.set D (.list xs)) { s with heap := h', toks := t } := by
  obtain ⟨mr, news, S⟩ := S
  have old : ∀ b ob, s.heap.get? b = some ob → h'.get? b = some ob := fun b ob e => hk b ob (fun hm => by
    have := Heap.lt_size e
    rw [List.mem_singleton.mp hm, hI] at this
    exact Nat.lt_irrefl _ this) (Heap.get?_push_of_some _ e)
  have hDs : s.heap.get? D = none := by
    cases q : s.heap.get? D with
    | none => rfl
    | some x => rw [Heap.get?_push_of_some _ q] at hD; cases hD
  have hDn : ∀ p ∈ news, p.1 ≠ D := fun p hp e => by rw [← e, (S.nw p hp).1] at hDs; cases hDs
  have hH : H D = none := by
    cases q : H D with
    | none => rfl
    | some po => obtain ⟨x, h1, _⟩ := S.view _ _ q; exact absurd rfl (hDn _ h1)
  obtain ⟨n, hg⟩ := hp
  refine ⟨hH, mr, (D, listOf ys n) :: news, ?_⟩
  obtain ⟨h, t', rfl⟩ := S.st
  refine ⟨⟨h', t, rfl⟩, ⟨S.fr.ns.keeps old, fun b ob e => old b ob (S.fr.keep b ob e), S.fr.above⟩, fun p hp => ?_, fun p hp => ?_, S.loc, fun j y k v hj hk hm => ?_, fun y d hd => ?_, fun a po ha => ?_⟩
  · rcases List.mem_cons.mp hp with rfl | hp
    · refine ⟨hg, fun e => ?_, ?_⟩
      · obtain ⟨oL, es, ep, hL, _⟩ := S.fr.ns
        have e' : D = C.env.locals := e
        have : h.get? D = some oL := by rw [e']; exact hL
        have h2 : h.get? D = none := hDs
        rw [h2] at this; cases this
      · cases q : C.h₀.get? D with
        | none => rfl
        | some x => have := S.fr.keep _ _ q; rw [hDs] at this; cases this
    · exact ⟨old _ _ (S.nw p hp).1, (S.nw p hp).2⟩
  · exact ⟨.tail _ (S.rest p hp).1, by show (if p.1 = D then _ else _) = _; rw [if_neg (hDn p (S.rest p hp).1)]; exact (S.rest p hp).2⟩
  · obtain ⟨c, oc, w, e1, e2, e3, e4⟩ := S.cel _ _ _ _ hj hk hm
    exact ⟨c, oc, w, e1, .tail _ e2, e3, e4⟩
  · obtain ⟨e1, e2, oc, w, e3, e4⟩ := S.celS _ _ hd
    exact ⟨by show (if d = D then _ else _) = _; rw [if_neg (hDn _ e3)]; exact e1, e2, oc, w, .tail _ e3, e4⟩
  · have ha' : (if a = D then some (PO.list xs) else H a) = some po := ha
    by_cases e : a = D
    · rw [if_pos e] at ha'
      cases ha'
      exact ⟨_, e ▸ .head _, ys, n, rfl, hx⟩
    · rw [if_neg e] at ha'
      obtain ⟨oc, h1, h2⟩ := S.view _ _ ha'
      exact ⟨oc, .tail _ h1, h2⟩

theorem Sim.growAt {C : Cx} (O : C.Ok) {R : List (Addr × Obj)} {m : Loc} {H : PH} {s : Shared} {mr : Str → Option Value} {news : List (Addr × Obj)} (S : SimW C R m H s mr news) {I D : Addr} {o : Obj} {h' : Heap} {ys : Array Value} {xs : List PV} {y : Str} {i : Nat} (t : Nat) (hI : I = s.heap.objs.size) (hD : (s.heap.push o).get? D = none)
    (hy : C.env.scope.names[i]? = some (y, NameKind.local)) (hns : h'.Ns C.env.locals (fun z => if z = y then some (.ref D) else mr z))
    (hp : h'.PlainList D ys) (hx : ys.toList.map abs = xs) (hk : ∀ b ob, b ≠ C.env.locals → b ∉ [I] → (s.heap.push o).get? b = some ob → h'.get? b = some ob) :
    H D = none ∧ Sim C R (m.set i (some (.ref D))) (H.set D (.list xs)) { s with heap := h', toks := t } := by
  have old : ∀ b ob, b ≠ C.env.locals → s.heap.get? b = some ob → h'.get? b = some ob := fun b ob hb e => hk b ob hb (fun hm => by
    have := Heap.lt_size e
    rw [List.mem_singleton.mp hm, hI] at this
    exact Nat.lt_irrefl _ this) (Heap.get?_push_of_some _ e)
  have hDs : s.heap.get? D = none := by
    cases q : s.heap.get? D with
    | none => rfl
    | some x => rw [Heap.get?_push_of_some _ q] at hD; cases hD
  have hDn : ∀ p ∈ news, p.1 ≠ D := fun p hp e => by rw [← e, (S.nw p hp).1] at hDs; cases hDs
  have hH : H D = none := by
    cases q : H D with
    | none => rfl
    | some po => obtain ⟨x, h1, _⟩ := S.view _ _ q; exact absurd rfl (hDn _ h1)
  obtain ⟨n, hg⟩ := hp
  have hLh₀ : ∀ b ob, C.h₀.get? b = some ob → b ≠ C.env.locals := fun b ob e => Nat.ne_of_lt (Nat.lt_of_lt_of_le (Heap.lt_size e) S.fr.above)
  refine ⟨hH, fun z => if z = y then some (.ref D) else mr z, (D, listOf ys n) :: news, ?_⟩
  obtain ⟨h, t', rfl⟩ := S.st
  refine ⟨⟨h', t, rfl⟩, ⟨hns, fun b ob e => old b ob (hLh₀ b ob e) (S.fr.keep b ob e), S.fr.above⟩, fun p hp => ?_, fun p hp => ?_, fun j z v hj hm => ?_, fun j z k v hj hk hm => ?_, fun y d hd => ?_, fun a po ha => ?_⟩
  · rcases List.mem_cons.mp hp with rfl | hp
    · refine ⟨hg, fun e => ?_, ?_⟩
      · obtain ⟨oL, es, ep, hL, _⟩ := S.fr.ns
        have e' : D = C.env.locals := e
        have : h.get? D = some oL := by rw [e']; exact hL
        have h2 : h.get? D = none := hDs
        rw [h2] at this; cases this
      · cases q : C.h₀.get? D with
        | none => rfl
        | some x => have := S.fr.keep _ _ q; rw [hDs] at this; cases this
    · exact ⟨old _ _ (S.nw p hp).2.1 (S.nw p hp).1, (S.nw p hp).2⟩
  · exact ⟨.tail _ (S.rest p hp).1, by show (if p.1 = D then _ else _) = _; rw [if_neg (hDn p (S.rest p hp).1)]; exact (S.rest p hp).2⟩
  · rcases get_set hm with ⟨rfl, e⟩ | ⟨hne, hm'⟩
    · rw [hy] at hj
      cases hj
      cases e
      exact ⟨.ref D, by simp, rfl⟩
    · obtain ⟨u, hu, hv⟩ := S.loc _ _ _ hj hm'
      refine ⟨u, ?_, hv⟩
      have : z ≠ y := fun e => hne (get_inj O.names (e ▸ hj) hy)
      simp [this, hu]
  · rcases get_set hm with ⟨rfl, e⟩ | ⟨hne, hm'⟩
    · rw [hy] at hj
      cases hj
      rcases hk with hk | hk <;> cases hk
    · obtain ⟨c, oc, w, e1, e2, e3, e4⟩ := S.cel _ _ _ _ hj hk hm'
      exact ⟨c, oc, w, e1, .tail _ e2, e3, e4⟩
  · obtain ⟨e1, e2, oc, w, e3, e4⟩ := S.celS _ _ hd
    exact ⟨by show (if d = D then _ else _) = _; rw [if_neg (hDn _ e3)]; exact e1, e2, oc, w, .tail _ e3, e4⟩
  · have ha' : (if a = D then some (PO.list xs) else H a) = some po := ha
    by_cases e : a = D
    · rw [if_pos e] at ha'
      cases ha'
      exact ⟨_, e ▸ .head _, ys, n, rfl, hx⟩
    · rw [if_neg e] at ha'
      obtain ⟨oc, h1, h2⟩ := S.view _ _ ha'
      exact ⟨oc, .tail _ h1, h2⟩

section
variable {C : Cx} {m : Loc} {H : PH} {elt iter : Expr} {x : Str} {px pos : Pos} {ifs : List Expr} {scope : Scope} {pe : PV → Bool} {fe : PV → PV}
/-- the tests and the element, at every item -/
noncomputable def EltOk (C : Cx) (scope : Scope) (x : Str) (m : Loc) (ifs : List Expr) (elt : Expr) (pe : PV → Bool) (fe : PV → PV) (items : List PV) (H : PH) : Prop :=
  ∀ env' h z, z ∈ items → CompEnv C scope x m H env' h z → ifsOk C ifs env' h (pe z) ∧ (pe z = true → PE C.prog C.w C.A abs (eval elt env') h (fe z))

theorem quiet_of (O : C.Ok) (K : CompOk C scope x) {R : List (Addr × Obj)} {s : Shared} (S : Sim C R m H s) {items : List PV} {o : Obj} {n : Nat} {P : Nat → Value → Prop} (hel : EltOk C scope x m ifs elt pe fe items H) (hP : ∀ i v, P i v → abs v ∈ items) :
    QuietOnC C.prog C.w C.A C.env scope (cloGo C.env scope.names []) x ifs elt [s.heap.objs.size] P (fun v => pe (abs v)) (fun v y => abs y = fe (abs v)) { s with heap := s.heap.push o } := by
  have env_ok : ∀ C' v (s₃ : Shared) m₃, abs v ∈ items → s₃.heap.Ns C' m₃ → m₃ x = some v → (∀ b ob, b ∉ [s.heap.objs.size] → (s.heap.push o).get? b = some ob → s₃.heap.get? b = some ob) →
      CompEnv C scope x m H (compEnvC scope (cloGo C.env scope.names []) C' C.env) s₃.heap (abs v) := by
    intro C' v s₃ m₃ hv hn hm hk
    obtain ⟨mr, news, S⟩ := S
    have old : ∀ b ob, s.heap.get? b = some ob → s₃.heap.get? b = some ob := fun b ob e => hk b ob (fun hm => by
      have := Heap.lt_size e
      rw [List.mem_singleton.mp hm] at this
      exact Nat.lt_irrefl _ this) (Heap.get?_push_of_some _ e)
    obtain ⟨g1, g2⟩ := cloGo_mem (env := C.env) scope.names [] K.free (fun p hp => nomatch hp)
    refine ⟨K.kind, ⟨lookup_relabel_local K.x, m₃, v, hn, hm, rfl⟩, fun y i u hy hmem hi hu => ?_, fun a xs ha => ?_⟩
    · obtain ⟨c, oc, w, e1, e2, e3, e4⟩ := S.cel _ _ _ _ hi (.inl rfl) hu
      refine ⟨lookup_relabel_free O.kind (lookup_of_get O.names hi) hy, c, w, ?_, ⟨oc, old _ _ (S.nw _ e2).1, e3⟩, e4⟩
      show (cloGo C.env scope.names []).lookup y = some c
      rw [lookup_all (f := fun y => C.env.cells.lookup y) g1 (g2 y (.inl hmem)), e1]
    · obtain ⟨oc, h1, vs, n, rfl, h2⟩ := S.view _ _ ha
      exact ⟨vs, ⟨_, old _ _ (S.nw _ h1).1, rfl, n, rfl⟩, h2⟩
  refine ⟨fun C' i v s₃ m₃ E' hC hp hn hm hk ht => ?_, fun C' i v s₃ m₃ E' hC hp hpv hn hm hk ht => ?_⟩
  · have ce := env_ok C' v s₃ m₃ (hP _ _ hp) hn hm hk
    have := (hel _ _ _ (hP _ _ hp) ce).1
    cases ifs with
    | nil =>
      refine wpAny_tests_nil ⟨Eq.symm this, s₃.heap, s₃.toks, rfl, fun _ _ e => e⟩
    | cons c r =>
      cases r with
      | cons _ _ => exact (show False from this).elim
      | nil => exact wpAny_tests_one ((show PE C.prog C.w C.A id _ s₃.heap (pe (abs v)) from this) s₃ _ _ rfl fun b tk hb => ⟨hb, s₃.heap, tk, rfl, fun _ _ e => e⟩)
  · have ce := env_ok C' v s₃ m₃ (hP _ _ hp) hn hm hk
    exact (hel _ _ _ (hP _ _ hp) ce).2 hpv s₃ _ _ rfl fun y tk hy => ⟨hy, s₃.heap, tk, rfl, fun _ _ e => e⟩

theorem ev_listcomp {Q : PV → PH → Prop} (O : C.Ok) (K : CompOk C scope x)
    (h : Ev C iter m H (fun v H1 => ∃ items, Src H1 v items ∧ items.length ≤ 16777216 ∧ EltOk C scope x m ifs elt pe fe items H1 ∧
      ∀ a, H1 a = none → Q (.ref a) (H1.set a (.list ((items.filter pe).map fe)))))
    (hs : ∀ v, foldedSetIterable iter C.env v = pure v := by intro _; rfl) : Ev C (.ListComp elt [⟨.Name x px, iter, ifs, 0⟩] scope pos) m H Q := by
  intro R s Q' S hQ
  refine wpAny_ListComp_free (p := fun v => pe (abs v)) (F := fun v y => abs y = fe (abs v)) (closure_is K.free) K.cell K.kind K.names K.x (h R s _ S fun v H1 s1 S1 q => ?_) hs
  obtain ⟨items, hsrc, hlen, hel, hq⟩ := q
  refine src_walk O S1 hsrc hlen fun I o fp n P St W hI hn hst hfp hall hit hmem => ?_
  subst hI
  refine ⟨_, fp, _, n, P, St, rfl, W, hn, hst, hfp, quiet_of O K S1 (n := n) hel hmem, fun D h' tk ys vs hD _ hpl hvs hP hF hk => ?_⟩
  have hitems := hall vs hvs hP
  have e : ys.toList.map abs = (items.filter pe).map fe := by rw [paired_abs hF, filter_abs, hitems]
  obtain ⟨hn', S2⟩ := S1.grow tk rfl hD hpl e hk
  exact hQ _ _ _ S2 (hq _ hn')

theorem ex_assign_listcomp {Q : FL → Loc → PH → Prop} (O : C.Ok) (K : CompOk C scope x) {y : Str} {py spos : Pos} {i : Nat} (hy : C.env.scope.names[i]? = some (y, NameKind.local))
    (hsw : swapsWith (.ListComp elt [⟨.Name x px, iter, ifs, 0⟩] scope pos) (some (.Name y py)) spos.line C.env = pure true)
    (h : Ev C iter m H (fun v H1 => ∃ items, Src H1 v items ∧ items.length ≤ 16777216 ∧ EltOk C scope x m ifs elt pe fe items H1 ∧
      ∀ a, H1 a = none → Q .next (m.set i (some (.ref a))) (H1.set a (.list ((items.filter pe).map fe)))))
    (hs : ∀ v, foldedSetIterable iter C.env v = pure v := by intro _; rfl) : Ex1 C (.Assign [.Name y py] (.ListComp elt [⟨.Name x px, iter, ifs, 0⟩] scope pos) spos) m H Q := by
  intro R s Q' S hQ
  refine wpAny_Assign_ListComp_free (p := fun v => pe (abs v)) (F := fun v y => abs y = fe (abs v)) hsw (closure_is K.free) K.cell K.kind K.names K.x (lookup_of_get O.names hy) (by rw [O.kind]; rfl) (h R s _ S fun v H1 s1 S1 q => ?_) hs
  obtain ⟨items, hsrc, hlen, hel, hq⟩ := q
  refine src_walk O S1 hsrc hlen fun I o fp n P St W hI hn hst hfp hall hit hmem => ?_
  subst hI
  obtain ⟨mr, news, S1'⟩ := id S1
  have hL : C.env.locals < s1.heap.objs.size := S1'.fr.ns.lt
  refine ⟨_, fp, _, n, P, St, mr, rfl, W, hn, hst, hfp, (fun hm => Nat.lt_irrefl _ ((List.mem_singleton.mp hm) ▸ hL)), S1'.fr.ns.push o, quiet_of O K S1 (n := n) hel hmem, fun D h' tk ys vs hD _ hpl hvs hP hF hns hk => ?_⟩
  have hitems := hall vs hvs hP
  have e : ys.toList.map abs = (items.filter pe).map fe := by rw [paired_abs hF, filter_abs, hitems]
  obtain ⟨hn', S2⟩ := Sim.growAt O S1' tk rfl hD hy hns hpl e hk
  exact hQ .next _ _ _ S2 (hq _ hn')
end
end Mine
end
section
open PySem PySem.W PySem.Calls PySem.Spec PyProof.Rows
set_option Elab.async false
set_option maxRecDepth 100000
set_option linter.unusedVariables false
namespace Mine
noncomputable def slc {α : Type} (xs : List α) (lo hi : Option Int) : List α :=
  (xs.drop (lo.elim 0 (clipAt xs.length))).take (hi.elim xs.length (clipAt xs.length) - lo.elim 0 (clipAt xs.length))
theorem slc_map {α β : Type} (f : α → β) (xs : List α) (lo hi : Option Int) : (slc xs lo hi).map f = slc (xs.map f) lo hi := by
  unfold slc
  simp [List.map_take, List.map_drop]
theorem slc_idx (lo hi : Option Int) (n : Nat) : Builtin.Str.strSliceIndices lo hi 1 n = (List.range (hi.elim n (clipAt n) - lo.elim 0 (clipAt n))).map fun k => lo.elim 0 (clipAt n) + k := by
  have e : Builtin.Str.strSliceIndices lo hi 1 n = sliceRange ((lo.elim 0 (clipAt n) : Nat) : Int) ((hi.elim n (clipAt n) : Nat) : Int) 1 := by
    unfold Builtin.Str.strSliceIndices
    cases lo <;> cases hi <;> simp [clipAt_cast]
  rw [e]
  unfold sliceRange
  simp only [show (1 : Int) > 0 by decide, if_true, Int.ediv_one]
  generalize hi.elim n (clipAt n) = b
  generalize lo.elim 0 (clipAt n) = a
  have : (if (a : Int) < (b : Int) then (b : Int) - (a : Int) + 1 - 1 else 0).toNat = b - a := by split <;> omega
  rw [this]
  refine List.map_congr_left fun k _ => ?_
  omega
theorem clipAt_le (n : Nat) (i : Int) : clipAt n i ≤ n := by
  unfold clipAt; omega
theorem slc_txt (x : List Nat) (lo hi : Option Int) : (Txt.slice ⟨x.toArray⟩ lo hi).cps.toList = slc x lo hi := by
  have hb : hi.elim x.length (clipAt x.length) ≤ x.length := by cases hi <;> simp [clipAt_le]
  have ha : lo.elim 0 (clipAt x.length) ≤ x.length := by cases lo <;> simp [clipAt_le]
  have hl : (⟨x.toArray⟩ : PySem.Str).length = x.length := by simp [PySem.Str.length]
  unfold Txt.slice slc
  rw [hl, slc_idx]
  generalize hi.elim x.length (clipAt x.length) = b at *
  generalize lo.elim 0 (clipAt x.length) = a at *
  split
  · rename_i h
    have h2 : b - a = x.length := by simpa using h
    have h3 : a = 0 := by omega
    have h4 : b = x.length := by omega
    rw [h3, h4, Nat.sub_zero, List.drop_zero, List.take_length]
  · have : ((List.range (b - a)).map fun k => a + k).filterMap (fun i => x[i]?) = (x.drop a).take (b - a) := by
      rcases Nat.lt_or_ge b a with h | h
      · have : b - a = 0 := by omega
        rw [this]; simp
      · exact PySem.StrLaws.picks x (b - a) a (by omega)
    simpa using this
noncomputable def Pt (C : Cx) (m : Loc) : Option Expr → PH → (Option Int → PH → Prop) → Prop
  | none, H, Q => Q none H
  | some e, H, Q => Ev C e m H (fun v H1 => ∃ i, v = .int i ∧ Q (some i) H1)
noncomputable def Slc (C : Cx) (m : Loc) (o : PV) (lo hi : Option Int) (H : PH) (Q : PV → PH → Prop) : Prop := match o with
  | .str x => x.length ≤ 16777216 ∧ Q (.str (slc x lo hi)) H
  | .ref a => ∃ xs, H a = some (.list xs) ∧ xs.length ≤ 16777216 ∧ ∀ D, H D = none → Q (.ref D) (H.set D (.list (slc xs lo hi)))
  | _ => False
noncomputable abbrev PtQ (Q : Option Int → PH → Prop) : PV → PH → Prop := fun v H1 => ∃ i, v = .int i ∧ Q (some i) H1
noncomputable abbrev SliQ3 (C : Cx) (m : Loc) (o : PV) (lo : Option Int) (Q : PV → PH → Prop) : Option Int → PH → Prop := fun hi H3 => Slc C m o lo hi H3 Q
noncomputable abbrev SliQ2 (C : Cx) (m : Loc) (o : PV) (upper : Option Expr) (Q : PV → PH → Prop) : Option Int → PH → Prop := fun lo H2 => Pt C m upper H2 (SliQ3 C m o lo Q)
noncomputable abbrev SliQ (C : Cx) (m : Loc) (lower upper : Option Expr) (Q : PV → PH → Prop) : PV → PH → Prop := fun o H1 => Pt C m lower H1 (SliQ2 C m o upper Q)
section
variable {C : Cx} {m : Loc} {H : PH} {Q : PV → PH → Prop} {value e : Expr} {lower upper : Option Expr} {pos p : Pos} {x : List Nat} {lo hi : Option Int} {a : Addr}
theorem pt_none {Q : Option Int → PH → Prop} (h : Q none H) : Pt C m none H Q := h
theorem pt_some {Q : Option Int → PH → Prop} (h : Ev C e m H (PtQ Q)) : Pt C m (some e) H Q := h
theorem pt_int {Q : Option Int → PH → Prop} {i : Int} (h : Q (some i) H) : ∃ i', PV.int i = .int i' ∧ Q (some i') H := ⟨i, rfl, h⟩
theorem slc_str (hl : x.length ≤ 16777216) (h : Q (.str (slc x lo hi)) H) : Slc C m (.str x) lo hi H Q := ⟨hl, h⟩
theorem slc_list {xs : List PV} (hH : H a = some (.list xs)) (hl : xs.length ≤ 16777216) (h : ∀ D, H D = none → Q (.ref D) (H.set D (.list (slc xs lo hi)))) : Slc C m (.ref a) lo hi H Q := ⟨xs, hH, hl, h⟩
theorem pt_eval {e : Option Expr} {Q : Option Int → PH → Prop} {R : List (Addr × Obj)} {s : Shared} {Q' : Value → Shared → Prop} (h : Pt C m e H Q) (S : Sim C R m H s)
    (hQ : ∀ v i H' s', Sim C R m H' s' → IsPart v i → Q i H' → Q' v s') : wpAny (model C.prog C.w) C.A (evalPart e C.env) Q' C.E s := by
  cases e with
  | none => exact wpAny_pure (hQ _ _ _ _ S .none h)
  | some e =>
    refine (show Ev C e m H _ from h) R s _ S fun v H1 s1 S1 q => ?_
    obtain ⟨i, e, q⟩ := q
    obtain ⟨t, rfl⟩ := abs_int e
    exact hQ _ _ _ _ S1 (.int i t) q
theorem ev_slice (h : Ev C value m H (SliQ C m lower upper Q)) : Ev C (.Subscript value (.Slice lower upper none p) pos) m H Q := by
  intro R s Q' S hQ
  refine Subscript_ (h R s _ S fun o H1 s1 S1 q1 => wpAny_Slice (pt_eval q1 S1 fun v1 lo H2 s2 S2 p1 q2 => pt_eval q2 S2 fun v2 hi H3 s3 S3 p2 q3 => wpAny_pure ?_))
  have hs : ∃ ops, subscripted (.Slice lower upper none p) false o (.ref s3.heap.objs.size) = operate ops (getItem o (.ref s3.heap.objs.size)) := subscripted_ops _ _ _
  obtain ⟨ops, hs⟩ := hs
  cases ho : abs o with
  | str x =>
    rw [ho] at q3
    obtain ⟨t, rfl⟩ := abs_str ho
    obtain ⟨hl, q⟩ := q3
    have hsz : (⟨x.toArray⟩ : PySem.Str).length ≤ sizeLine := by simpa [PySem.Str.length, sizeLine] using hl
    have fin : ∀ s' t', Sim C R m H3 s' → Q' (.str (Txt.slice ⟨x.toArray⟩ lo hi) t') s' := fun s' t' S' => hQ _ H3 _ S' (by
      show Q (.str (Txt.slice ⟨x.toArray⟩ lo hi).cps.toList) H3
      rw [slc_txt]; exact q)
    have hit : ItemOn (model C.prog C.w) C.A C.E (.str ⟨x.toArray⟩ t) (.ref s3.heap.objs.size) Q' { s3 with heap := s3.heap.push { cls := .type "slice", data := .fields #[v1, v2, .none] } } := by
      cases p1 with
      | none => cases p2 with
        | none => exact SBG.sliceItem_nn Sim.kept S3 fin hsz
        | int j tj => exact SBG.sliceItem_ns Sim.kept S3 fin hsz
      | int i ti => cases p2 with
        | none => exact SBG.sliceItem_sn Sim.kept S3 fin hsz
        | int j tj => exact SBG.sliceItem_ss Sim.kept S3 fin hsz
    obtain ⟨T, id, hl, hT, hg⟩ := hit
    exact tail_any hT hl hg hs
  | ref a =>
    rw [ho] at q3
    cases abs_ref ho
    obtain ⟨xs, hH, hl, q⟩ := q3
    have S4 := S3.push { cls := .type "slice", data := .fields #[v1, v2, .none] } s3.toks
    obtain ⟨vs, hL, hx⟩ := S4.list hH
    have hsz : vs.size ≤ sizeLine := by
      rw [← hx] at hl
      simpa [sizeLine] using hl
    refine tail_any hL.typeIs slot_list_getitem.lookup (wpAny_getItem_list_slice hL (Heap.IsSliceOf.new ..) p1 p2 .none (by simp) ?_ hsz) hs
    obtain ⟨hf, S5⟩ := S4.alloc (o := { cls := .type "list", data := .seq (slicePick vs lo hi none) }) (po := .list (slc xs lo hi)) ⟨slicePick vs lo hi none, 0, rfl, by
      rw [slicePick_plain, ← hx, ← slc_map]
      simp [slc]⟩ s3.toks
    exact hQ _ _ _ S5 (q _ hf)
  | _ => rw [ho] at q3; exact q3.elim
end
end Mine
end
section
open PySem PySem.W PySem.Calls PySem.Spec PyProof.Rows
set_option Elab.async false
set_option maxRecDepth 100000
set_option linter.unusedVariables false
namespace Mine
/-- a list, changed in place -/
theorem Sim.mut {C : Cx} {R : List (Addr × Obj)} {m : Loc} {H : PH} {s : Shared} (S : Sim C R m H s) {a : Addr} {po po' : PO} {o' : Obj} {h' : Heap} (hH : H a = some po) (hs : Heap.SameBut a s.heap h') (ho : h'.get? a = some o') (hr : po'.Rep o') (t : Nat) :
    Sim C R m (H.set a po') { s with heap := h', toks := t } := by
  obtain ⟨mr, news, S⟩ := S
  obtain ⟨o, hm, _⟩ := S.view _ _ hH
  have haL := (S.nw _ hm).2.1
  refine ⟨mr, news.map fun p => if p.1 = a then (a, o') else p, ?_⟩
  obtain ⟨h, t', rfl⟩ := S.st
  refine ⟨⟨h', t, rfl⟩, ⟨S.fr.ns.sameBut hs (Ne.symm haL), fun b ob e => (hs.2 b fun q => ?_).trans (S.fr.keep b ob e), S.fr.above⟩, news_one S.nw hm hs ho, fun p hp => ?_, S.loc, fun j y k v hj hk hm' => ?_, fun y d hd => ?_, fun b po₂ hb => ?_⟩
  · rw [q, (S.nw _ hm).2.2] at e; cases e
  · obtain ⟨h1, h2⟩ := S.rest p hp
    have hne : p.1 ≠ a := fun e => by rw [e, hH] at h2; cases h2
    exact ⟨mem_other h1 hne, by show (if p.1 = a then _ else _) = _; rw [if_neg hne]; exact h2⟩
  · obtain ⟨c, oc, w, e1, e2, e3, e4⟩ := S.cel _ _ _ _ hj hk hm'
    exact ⟨c, oc, w, e1, mem_other e2 fun q => (by have := (S.celS _ _ e1).1; rw [show c = a from q, hH] at this; cases this), e3, e4⟩
  · obtain ⟨e1, e2, oc, w, e3, e4⟩ := S.celS _ _ hd
    have hne : d ≠ a := fun e => by rw [e, hH] at e1; cases e1
    exact ⟨by show (if d = a then _ else _) = _; rw [if_neg hne]; exact e1, e2, oc, w, mem_other e3 hne, e4⟩
  · have hb' : (if b = a then some po' else H b) = some po₂ := hb
    by_cases e : b = a
    · rw [if_pos e] at hb'
      cases hb'
      exact ⟨o', by rw [show b = a from e]; exact mem_one hm, hr⟩
    · rw [if_neg e] at hb'
      obtain ⟨oc, h1, h2⟩ := S.view _ _ hb'
      exact ⟨oc, mem_other h1 e, h2⟩

theorem ob_new : TypeCalled "object" "object.__new__" "object.__init__" := by
  have bm_mro : mroOf (.type "object") = pure [.type "object"] := by rw [mroOf_type]; kernel_rfl
  have bm_lookup_new : typeLookup (.type "object") "__new__" = pure (some (.builtin "object.__new__")) := by rw [typeLookup_type, builtinLookup_eq_fast]; kernel_rfl
  have bm_slot_init : Slot "object" "__init__" "object.__init__" :=
    .of (owner := "object") (n := "__init__") (by rw [typeLookup_type, builtinLookup_eq_fast]; kernel_rfl) (by decide +kernel) (by decide +kernel) (by decide +kernel)
      (by first | exact .inl (by decide +kernel) | exact .inr (by decide +kernel)) (by rw [isSubtype_type]; kernel_rfl)
  exact ⟨by decide +kernel, by decide +kernel, ⟨_, _, bm_mro⟩, madeBy_type bm_mro bm_lookup_new (by decide +kernel), by decide +kernel, by rw [isSubtype_type]; kernel_rfl, bm_slot_init⟩
theorem ob_typeCall : checkTypeCall "object" ⟨[], []⟩ = pure () := by kernel_rfl
theorem ob_newCall : checkBuiltinCall "object.__new__" ⟨[.type "object"], []⟩ = pure () := by kernel_rfl
theorem ob_init_args (a : Value) : argsOk "object.__init__" ⟨[a], []⟩ := by
  unfold argsOk; rw [signature?_of (id := "object.__init__") (n := ['_', '_', 't', 'i', 'n', 'i', '_', '_']) (o := ['t', 'c', 'e', 'j', 'b', 'o']) (by kernel_rfl) PySem.F.owner_object]; kernel_rfl
theorem ob_new_eq : Builtin.«object.__new__» ⟨[.type "object"], []⟩ = (newObj (.type "object") .plain none >>= fun v => ret v) := by kernel_rfl
theorem ob_new_meets : Meets (Builtin.«object.__new__» ⟨[.type "object"], []⟩) (fun _ R s => R (.ok (.ret (.ref s.heap.objs.size))) { s with heap := s.heap.push { cls := .type "object", data := .plain } }) := by
  refine .of_wp fun prog w A R s h => ?_
  rw [ob_new_eq]
  refine wpAny_bind (wpAny_newObj_type ?_)
  exact wpAny_pure ⟨_, rfl, h⟩
theorem call_object {prog : Program} {w : World} {A : Around} {E : Value → Shared → Prop} {s : Shared} {Q : Value → Shared → Prop}
    (h : Q (.ref s.heap.objs.size) { s with heap := s.heap.push { cls := .type "object", data := .plain } }) : wpAny (model prog w) A (call (.type "object") []) Q E s :=
  callType_meets ob_new ob_typeCall ob_newCall (entryFor_of_tree (by kernel_rfl)) PySem.F.entry_object_init ob_new_meets
    (Q₁ := fun obj s₁ => s₁.TypeIs obj "object" ∧ Q obj s₁) ⟨⟨_, Heap.get?_push_size _ rfl, rfl⟩, h⟩ fun obj s₁ hq =>
    ⟨hq.1, ob_init_args obj, fun _ R s => R (.ok (.ret .none)) s, Meets.of_wp fun prog w A R s hs => wpAny_pure ⟨_, rfl, hs⟩, rfl, hq.2⟩
end Mine
end
section
open PySem PySem.W PySem.Calls PySem.Spec PyProof.Rows
set_option Elab.async false
set_option maxRecDepth 100000
set_option linter.unusedVariables false
namespace Mine
section
variable {C : Cx} {m : Loc} {H : PH} {Q : PV → PH → Prop} {f a b c : PV}
theorem ca0 (h : ∀ f', abs f' = f → TV C m H (call f' []) Q) : Ca C m f [] [] H Q := fun f' as ks hf ha hk => by
  cases args0 ha; cases kws0 hk; exact h f' hf
theorem ca1 (h : ∀ f' v, abs f' = f → abs v = a → TV C m H (call f' [v]) Q) : Ca C m f [a] [] H Q := fun f' as ks hf ha hk => by
  obtain ⟨v, rfl, hv⟩ := args1 ha; cases kws0 hk; exact h f' v hf hv
theorem ca2 (h : ∀ f' v w, abs f' = f → abs v = a → abs w = b → TV C m H (call f' [v, w]) Q) : Ca C m f [a, b] [] H Q := fun f' as ks hf ha hk => by
  obtain ⟨v, w, rfl, hv, hw⟩ := args2 ha; cases kws0 hk; exact h f' v w hf hv hw
theorem ca3 (h : ∀ f' v w u, abs f' = f → abs v = a → abs w = b → abs u = c → TV C m H (call f' [v, w, u]) Q) : Ca C m f [a, b, c] [] H Q := fun f' as ks hf ha hk => by
  obtain ⟨v, w, u, rfl, hv, hw, hu⟩ := args3 ha; cases kws0 hk; exact h f' v w u hf hv hw hu
end

/-- the type of a seen value -/
noncomputable def HasT (H : PH) (T : String) : PV → Prop
  | .str _ => T = "str"
  | .bytes _ => T = "bytes"
  | .ref a => T = "list" ∧ ∃ xs, H a = some (.list xs)
  | _ => False
theorem hasT_str {H : PH} {x : List Nat} : HasT H "str" (.str x) := rfl
theorem hasT_bytes {H : PH} {x : List UInt8} : HasT H "bytes" (.bytes x) := rfl
theorem hasT_list {H : PH} {a : Addr} {xs : List PV} (h : H a = some (.list xs)) : HasT H "list" (.ref a) := ⟨rfl, _, h⟩
theorem HasT.is {C : Cx} {R : List (Addr × Obj)} {m : Loc} {H : PH} {s : Shared} (S : Sim C R m H s) {T : String} {v : Value} (h : HasT H T (abs v)) :
    s.TypeIs v T ∧ ∀ a, v = .ref a → ∃ ob, s.heap.get? a = some ob ∧ ob.dict = none := by
  cases e : abs v with
  | str x =>
    rw [e] at h; obtain ⟨t, rfl⟩ := abs_str e; cases (show T = "str" from h)
    exact ⟨typeIs_str _ _ _, fun _ h => nomatch h⟩
  | bytes x =>
    rw [e] at h; obtain ⟨t, rfl⟩ := abs_bytes e; cases (show T = "bytes" from h)
    exact ⟨typeIs_bytes _ _ _, fun _ h => nomatch h⟩
  | ref a =>
    rw [e] at h; cases abs_ref e
    obtain ⟨rfl, xs, hH⟩ := h
    obtain ⟨vs, hL, _⟩ := S.list hH
    refine ⟨hL.typeIs, fun b hb => ?_⟩
    cases hb
    obtain ⟨o, h1, us, n, rfl, h4⟩ := S.get hH
    exact ⟨_, h1, rfl⟩
  | _ => rw [e] at h; exact h.elim
noncomputable abbrev MthQ2 (C : Cx) (m : Loc) (id : String) (ov : PV) (Q : PV → PH → Prop) : List PV → PH → Prop := fun vs H2 => Ca C m (.builtin id) (ov :: vs) [] H2 Q
noncomputable abbrev MthQ (C : Cx) (m : Loc) (T id : String) (args : List Expr) (Q : PV → PH → Prop) : PV → PH → Prop := fun ov H1 => HasT H1 T ov ∧ Eas C m args H1 (MthQ2 C m id ov Q)
section
variable {C : Cx} {m : Loc} {H : PH} {Q : PV → PH → Prop} {o : Expr} {name : Str} {apos pos : Pos} {args : List Expr} {x y : List Nat} {a : Addr}
theorem ev_method (T id : String) (pa : PlainAttrs T) (slot : Slot T name id) (hty : typeOf (.builtin id) = pure (.type "method_descriptor"))
    (h : Ev C o m H (MthQ C m T id args Q))
    (hs : args.all noStar = true := by rfl) (hline : (apos.endLine == pos.line) = true := by rfl)
    (hbase : ∀ env, attributeBase o name env (eval o env) = eval o env := by intro _; rfl)
    (hn : (args.length < 30) := by decide) : Ev C (.Call (.Attribute o name apos) args [] pos) m H Q := by
  intro R s Q' S hQ
  refine wpAny_Call_method (T := T) (id := id) (hbase _) ?_ hline pa slot hty (h R s _ S fun ov H1 s1 S1 q => ?_)
  · have h1 : (backTo pos (starEach args C.env)).all (fun x => !x.1) = true := by
      have := eas_plain (pos := pos) (env := C.env) hs
      rw [List.any_eq_false] at this
      rw [List.all_eq_true]
      intro x hx
      simpa using this x hx
    rw [h1]
    simp
    refine ⟨fun _ _ hm => (nomatch hm), by simpa using hn⟩
  · obtain ⟨g1, g2⟩ := q.1.is S1
    exact ⟨g1, g2, callWith_eas (first := [ov]) hs kp_builtin (by simpa [abs] using q.2) _ s1 Q' S1 hQ⟩
theorem ca_append {xs : List PV} {v : PV} (hH : H a = some (.list xs)) (hl : xs.length ≤ 16777216) (h : Q .none (H.set a (.list (xs ++ [v])))) : Ca C m (.builtin "list.append") [.ref a, v] [] H Q := by
  refine ca2 fun f' l w hf hl' hw R s Q' S hQ => ?_
  cases abs_builtin hf
  cases abs_ref hl'
  subst hw
  obtain ⟨ob, h1, vs, n, rfl, rfl⟩ := S.get hH
  refine wpAny_list_append_plain (items := vs) ⟨n, h1⟩ (fun h' hp hs => ?_) (by simpa [sizeLine] using hl)
  obtain ⟨n', hp⟩ := hp
  exact hQ _ _ _ (S.mut hH hs hp (po' := .list (vs.toList.map abs ++ [abs w])) ⟨_, _, rfl, by simp⟩ s.toks) h
theorem ca_type {v : PV} {T : String} (hT : HasT H T v) (hn : (Value.type T == Value.type "builtin_function_or_method") = false) (h : Q (.type T) H) : Ca C m (.type "type") [v] [] H Q := by
  refine ca1 fun f' l hf hl R s Q' S hQ => ?_
  cases abs_type hf
  subst hl
  exact call_type_of (hT.is S).1 hn (hQ (.type T) _ _ S h)
theorem ca_type_bool {b : Bool} (h : Q (.type "bool") H) : Ca C m (.type "type") [.bool b] [] H Q := by
  refine ca1 fun f' l hf hl R s Q' S hQ => ?_
  cases abs_type hf
  cases abs_bool hl
  exact call_type_of (PySem.typeIs_bool _ _) (by decide) (hQ (.type "bool") _ _ S h)
theorem ca_object (h : ∀ a, H a = none → Q (.ref a) (H.set a (.raw { cls := .type "object", data := .plain }))) : Ca C m (.type "object") [] [] H Q := by
  refine ca0 fun f' hf R s Q' S hQ => ?_
  cases abs_type hf
  obtain ⟨hf, S2⟩ := S.alloc (o := { cls := .type "object", data := .plain }) (po := .raw _) rfl s.toks
  exact call_object (hQ _ _ _ S2 (h _ hf))
theorem ca_range {n : Int} (h : ∀ a, H a = none → Q (.ref a) (H.set a (.range n))) : Ca C m (.type "range") [.int n] [] H Q := by
  refine ca1 fun f' l hf hl R s Q' S hQ => ?_
  cases abs_type hf
  obtain ⟨t, rfl⟩ := abs_int hl
  obtain ⟨hf, S2⟩ := S.alloc (o := { cls := .type "range", data := .fields #[.int 0 s.toks, .int n t, .int 1 (s.toks + 1)] }) (po := .range n) ⟨_, _, _, rfl⟩ (s.toks + 1 + 1)
  exact call_range_1 (hQ _ _ _ S2 (h _ hf))
noncomputable def bts (ns : List Int) : List UInt8 := ns.map fun n => n.toNat.toUInt8
theorem Sim.keeps {R : List (Addr × Obj)} {s : Shared} (S : Sim C R m H s) {h' : Heap} (hk : ∀ b o, s.heap.get? b = some o → h'.get? b = some o) (t : Nat) : Sim C R m H { s with heap := h', toks := t } := by
  obtain ⟨mr, news, S⟩ := S
  refine ⟨mr, news, ?_⟩
  obtain ⟨h, t', rfl⟩ := S.st
  exact ⟨⟨h', t, rfl⟩, ⟨S.fr.ns.keeps hk, fun b ob e => hk b ob (S.fr.keep b ob e), S.fr.above⟩, fun p hp => ⟨hk _ _ (S.nw p hp).1, (S.nw p hp).2⟩, S.rest, S.loc, S.cel, S.celS, S.view⟩
theorem ca_bytes (O : C.Ok) {ns : List Int} (hH : H a = some (.list (ns.map .int))) (hr : ∀ n ∈ ns, 0 ≤ n ∧ n < 256) (hl : ns.length ≤ 16777216) (h : Q (.bytes (bts ns)) H) : Ca C m (.type "bytes") [.ref a] [] H Q := by
  refine ca1 fun f' l hf hl' R s Q' S hQ => ?_
  cases abs_type hf
  cases abs_ref hl'
  obtain ⟨vs, hL, hx⟩ := S.list hH
  have hi := intsAre_of hx
  refine call_bytes_ints (vs := vs.toList) (by simpa using hL) hi hr (by rw [hi.length]; simpa [sizeLine] using hl) O.hand fun h' t k hk => hQ _ _ _ (S.keeps hk k) ?_
  show Q (.bytes (byteArr ns).toList) H
  simpa [byteArr, bts] using h
theorem ca_strInt {i : Int} (hi : i.natAbs < 2 ^ 1000) (h : Q (.str (Str.ofString (toString i)).cps.toList) H) : Ca C m (.type "str") [.int i] [] H Q := by
  refine ca1 fun f' l hf hl R s Q' S hQ => ?_
  cases abs_type hf
  obtain ⟨t, rfl⟩ := abs_int hl
  refine P.str_of_int ?_ (hQ _ _ _ (S.toks _) h)
  rcases Nat.eq_zero_or_pos i.natAbs with h0 | h0
  · rw [h0]; decide
  · have := (Nat.log2_lt (by omega : i.natAbs ≠ 0)).mpr hi
    omega
theorem ca_isStr_str (h : Q (.bool true) H) : Ca C m (.builtin "isinstance") [.str x, .type "str"] [] H Q := by
  refine ca2 fun f' v w hf hv hw R s Q' S hQ => ?_
  cases abs_builtin hf
  cases abs_type hw
  obtain ⟨t, rfl⟩ := abs_str hv
  exact IsiPair.str_str (hQ (.bool true) _ _ S h)
theorem ca_isStr_bytes (O : C.Ok) {x : List UInt8} (h : Q (.bool false) H) : Ca C m (.builtin "isinstance") [.bytes x, .type "str"] [] H Q := by
  refine ca2 fun f' v w hf hv hw R s Q' S hQ => ?_
  cases abs_builtin hf
  cases abs_type hw
  obtain ⟨t, rfl⟩ := abs_bytes hv
  obtain ⟨mr, news, S'⟩ := id S
  exact kia_one (K := C.K) kitx_bytes (O.kin.keeps S'.fr.keep) trivial (by kernel_rfl) (fun h => nomatch h) fun tk => hQ (.bool false) _ _ (S.toks tk) h
theorem ca_isTup_bytes (O : C.Ok) {x : List UInt8} {tp : Addr} {dd : Option Addr} {n : Nat} {sl : Array (Option Value)} (ht : C.K.lookup tp = some ⟨.type "tuple", dd, .seq #[.type "bytes", .type "bytearray"] n, sl⟩) (h : Q (.bool true) H) : Ca C m (.builtin "isinstance") [.bytes x, .ref tp] [] H Q := by
  refine ca2 fun f' v w hf hv hw R s Q' S hQ => ?_
  cases abs_builtin hf
  cases abs_ref hw
  obtain ⟨t, rfl⟩ := abs_bytes hv
  obtain ⟨mr, news, S'⟩ := id S
  have X := O.kin.keeps S'.fr.keep
  exact kia_tup (K := C.K) (its := [.type "bytes", .type "bytearray"]) kitx_bytes X trivial (X _ _ ht) (by kernel_rfl) (fun h => nomatch h) fun tk => hQ (.bool true) _ _ (S.toks tk) h
end
end Mine
end
section
open PySem PySem.W PySem.Calls PySem.Spec PyProof.Rows
set_option Elab.async false
set_option maxRecDepth 100000
set_option linter.unusedVariables false
namespace Mine
open PySem.Builtin
theorem foldl_bytes (x : List Nat) (acc : Array UInt8) : x.foldl (fun acc y => acc ++ (_codecs.asciiCodec.bytesOf y).toArray) acc = acc ++ (x.map (·.toUInt8)).toArray := by
  induction x generalizing acc with
  | nil => simp
  | cons c r ih =>
    rw [List.foldl_cons, ih]
    show acc ++ ([c.toUInt8] : List UInt8).toArray ++ _ = _
    simp
theorem wpAny_forIn_l {α β : Type} {M : Model} {A : Around} {E : Value → Shared → Prop} {Q : β → Shared → Prop} {f : α → β → Sem (ForInStep β)} (I : Nat → β → Shared → Prop) (n : Nat)
    (turn : ∀ k a b s, k < n → I k b s → wpAny M A (f a b) (fun r s' => match r with | .yield b' => I (k + 1) b' s' | .done b' => Q b' s') E s)
    (fin : ∀ b s, I n b s → Q b s) : ∀ (l : List α) (k : Nat) (b : β) (s : Shared), l.length + k = n → I k b s → wpAny M A (forIn l b f) Q E s
  | [], k, b, s, hk, hI => by
    rw [List.forIn_nil]
    have : k = n := by simpa using hk
    exact wpAny_pure (fin _ _ (this ▸ hI))
  | a :: l, k, b, s, hk, hI => by
    rw [List.forIn_cons]
    refine wpAny_bind (wpAny_mono (turn k a b s (by simp at hk; omega) hI) (fun r s' h => ?_) fun _ _ e => e)
    cases r with
    | done b' => exact wpAny_pure h
    | yield b' => exact wpAny_forIn_l I n turn fin l (k + 1) b' s' (by simp at hk; omega) h
theorem wpAny_ifN {α : Type} {M : Model} {A : Around} {E : Value → Shared → Prop} {Q : α → Shared → Prop} {st : Shared} {c : Prop} [Decidable c] {t u : Sem α} (hc : ¬ c) (h : wpAny M A u Q E st) : wpAny M A (if c then t else u) Q E st := by rw [if_neg hc]; exact h
theorem wpAny_ifY {α : Type} {M : Model} {A : Around} {E : Value → Shared → Prop} {Q : α → Shared → Prop} {st : Shared} {c : Prop} [Decidable c] {t u : Sem α} (hc : c) (h : wpAny M A t Q E st) : wpAny M A (if c then t else u) Q E st := by rw [if_pos hc]; exact h
theorem wpAny_range {β : Type} {M : Model} {A : Around} {E : Value → Shared → Prop} {Q : β → Shared → Prop} {st : Shared} {f : Nat → β → Sem (ForInStep β)} {b : β} {n : Nat} {p : 0 < 1} (h : wpAny M A (forIn (List.range' 0 n) b f) Q E st) : wpAny M A (forIn (⟨0, n, 1, p⟩ : Std.Legacy.Range) b f) Q E st := by
  rw [Std.Legacy.Range.forIn_eq_forIn_range']
  simpa [Std.Legacy.Range.size] using h
theorem match_some {β : Type} {M : Model} {A : Around} {E : Value → Shared → Prop} {Q : β → Shared → Prop} {st : Shared} {e : Option Nat} {v : Nat} {f : Nat → Sem β} {g : Option Nat → Sem β} (he : e = some v) (h : wpAny M A (f v) Q E st) : wpAny M A (_codecs.encodeNarrow.match_10 (fun _ => Sem β) e f g) Q E st := by rw [he]; exact h
theorem match_none {β : Type} {M : Model} {A : Around} {E : Value → Shared → Prop} {Q : β → Shared → Prop} {st : Shared} {e : Option Nat} {f : Nat → Sem β} {g : Option Nat → Sem β} (he : e = none) (h : wpAny M A (g none) Q E st) : wpAny M A (_codecs.encodeNarrow.match_10 (fun _ => Sem β) e f g) Q E st := by rw [he]; exact h
theorem enc_ascii {M : Model} {A : Around} {E : Value → Shared → Prop} {st : Shared} {Q : Array UInt8 → Shared → Prop} {id : String} {self : Value} {x : List Nat} (hx : ∀ c ∈ x, c < 128) (hl : x.length ≤ sizeLine)
    (h : Q (x.map (·.toUInt8)).toArray st) : wpAny M A (_codecs.encodeNarrow id _codecs.asciiCodec none self ⟨x.toArray⟩) Q E st := by
  unfold _codecs.encodeNarrow
  refine wpAny_bind (wpAny_range ?_)
  have hb : ∀ c ∈ x, _codecs.asciiCodec.bad c = false := fun c hc => by
    show decide (c ≥ 128) = false
    have := hx c hc
    simp; omega
  have hnone : x.toArray.findIdx? _codecs.asciiCodec.bad = none := by
    rw [Array.findIdx?_eq_none_iff]
    intro y hy
    exact hb y (by simpa using hy)
  have hex : x.toArray.extract 0 x.toArray.size = x.toArray := by simp
  have hfold : Array.foldl (fun acc y => acc ++ (_codecs.asciiCodec.bytesOf y).toArray) #[] x.toArray = (x.map (·.toUInt8)).toArray := by
    have := foldl_bytes x #[]
    simpa using this
  refine wpAny_forIn_l (fun k r s => s = st ∧ (k = 0 ∧ r.1 = 0 ∧ r.2.1 = #[] ∨ 0 < k ∧ r.1 = x.length ∧ r.2.1 = (x.map (·.toUInt8)).toArray)) x.length ?_ ?_ _ 0 _ _ (by simp [PySem.Str.length]) ⟨rfl, .inl ⟨rfl, rfl, rfl⟩⟩
  · rintro k a ⟨i, out, fs⟩ s hk ⟨rfl, hr⟩
    rcases hr with ⟨rfl, h1, h2⟩ | ⟨_, h1, h2⟩
    · dsimp only at h1 h2
      subst h1 h2
      refine wpAny_ifN (by decide : ¬ (#[] : Array UInt8).size > sizeLine) ?_
      have e0 : x.toArray[0]? = some x[0] := by simp [hk]
      refine match_some e0 ?_
      refine wpAny_ifY (by rw [hb _ (List.getElem_mem hk)]; rfl) ?_
      refine wpAny_pure ⟨rfl, .inr ⟨Nat.succ_pos _, ?_, ?_⟩⟩
      · dsimp only
        rw [hex, hnone]
        simp
      · dsimp only
        rw [hex, hnone]
        show Array.foldl _ _ (x.toArray.extract 0 x.toArray.size) = _
        rw [hex, hfold]
    · dsimp only at h1 h2
      subst h1 h2
      have hsz : ¬ (x.map (·.toUInt8)).toArray.size > sizeLine := by
        simp only [List.size_toArray, List.length_map]
        omega
      refine wpAny_ifN hsz ?_
      have e1 : x.toArray[x.length]? = none := by simp
      refine match_none e1 ?_
      exact wpAny_pure (wpAny_pure h)
  · rintro ⟨i, out, fs⟩ s ⟨rfl, hr⟩
    rcases hr with ⟨h0, h1, h2⟩ | ⟨_, h1, h2⟩
    · dsimp only at h1 h2
      subst h1 h2
      cases List.length_eq_zero_iff.mp h0
      exact wpAny_pure h
    · dsimp only at h1 h2
      subst h1 h2
      exact wpAny_pure h
theorem slot_str_encode : Slot "str" "encode" "str.encode" :=
  .of (owner := "str") (n := "encode") (by rw [typeLookup_type, builtinLookup_eq_fast]; kernel_rfl) (by decide +kernel) (by decide +kernel) (by decide +kernel)
    (by first | exact .inl (by decide +kernel) | exact .inr (by decide +kernel)) (by rw [isSubtype_type]; kernel_rfl)
theorem type_str_encode : typeOf (.builtin "str.encode") = pure (.type "method_descriptor") := by show builtinType _ = _; rw [builtinType_eq_fast]; kernel_rfl
theorem entry_str_encode : entryFor table "str.encode" = some Builtin.«str.encode» := entryFor_of_tree (by kernel_rfl)
theorem args_str_encode_2 (a b : Value) : argsOk "str.encode" ⟨[a, b], []⟩ := by
  unfold argsOk; rw [signature?_of (id := "str.encode") (n := ['e', 'd', 'o', 'c', 'n', 'e']) (o := ['r', 't', 's']) (by kernel_rfl) PySem.F.owner_str]; kernel_rfl
noncomputable abbrev asciiName : List Nat := [97, 115, 99, 105, 105]
theorem encode_eq (s : PySem.Str) (t u : Tok) : «str.encode» ⟨[.str s t, .str ⟨asciiName.toArray⟩ u], []⟩ = ((_codecs.encodeNarrow "str.encode" _codecs.asciiCodec none (.str s t) s >>= mkBytes) >>= ret) := by kernel_rfl
theorem args_bytes_decode_2 (a b : Value) : argsOk "bytes.decode" ⟨[a, b], []⟩ := by
  unfold argsOk; rw [signature?_of (id := "bytes.decode") (n := ['e', 'd', 'o', 'c', 'e', 'd']) (o := ['s', 'e', 't', 'y', 'b']) (by kernel_rfl) PySem.W.FB.owner_bytes]; kernel_rfl
theorem decode_eq (c : UInt8) (cs : List UInt8) (t u : Tok) : «bytes.decode» ⟨[.bytes (c :: cs).toArray t, .str ⟨asciiName.toArray⟩ u], []⟩ = (mkStr (PySem.Str.ofString "utf-8") >>= fun _ => mkStr ⟨asciiName.toArray⟩ >>= fun e => mkStr (PySem.Str.ofString "bytes.decode") >>= fun d =>
    call (.builtin "_codecs.decode.text") [.bytes (c :: cs).toArray t, e, .none, d] >>= fun v => ret v) := by kernel_rfl
theorem road_ascii {id : String} {b : Array UInt8} : _codecs.decodeRoad id b ⟨asciiName.toArray⟩ none [] = (_codecs.runDecoder id _codecs.asciiDecoder none true b 0 [] >>= fun r => mkStr ⟨r.1⟩) := by kernel_rfl

theorem run_ascii {M : Model} {A : Around} {E : Value → Shared → Prop} {st : Shared} {Q : Array Nat × Nat → Shared → Prop} {id : String} {b : List UInt8} (hb : ∀ c ∈ b, c.toNat < 128) (hl : b.length ≤ sizeLine)
    (h : Q ((b.map (·.toNat)).toArray, b.length) st) : wpAny M A (_codecs.runDecoder id _codecs.asciiDecoder none true b.toArray 0 []) Q E st := by
  unfold _codecs.runDecoder
  refine wpAny_bind (wpAny_range ?_)
  refine wpAny_forIn_l (fun k r s => s = st ∧ r.1 = k ∧ r.2.1 = ((b.take k).map (·.toNat)).toArray) b.length ?_ ?_ _ 0 _ _ (by simp) ⟨rfl, rfl, by simp⟩
  · rintro k a ⟨p, out, fs⟩ s hk ⟨rfl, hp, ho⟩
    dsimp only at hp ho
    subst hp ho
    have h1 : ¬ ((b.take p).map (·.toNat)).toArray.size > sizeLine := by
      simp only [List.size_toArray, List.length_map, List.length_take]
      omega
    have h2 : ¬ p ≥ b.toArray.size := by simp; omega
    dsimp only
    rw [if_neg h1, if_neg h2]
    have hc : b[p]? = some b[p] := List.getElem?_eq_getElem hk
    have hg : b.toArray.getD p 0 = b[p] := by simp [hk]
    have hf : _codecs.asciiDecoder.find true b.toArray p = .char (b[p]).toNat (p + 1) := by
      show (if (b.toArray.getD p 0).toNat < 128 then _ else _) = _
      rw [hg, if_pos (hb _ (List.getElem_mem hk))]
    rw [hf]
    unfold _codecs.Found.char
    refine wpAny_pure ⟨rfl, rfl, ?_⟩
    dsimp only
    rw [List.take_add_one, hc]
    simp only [Option.toList_some, List.map_append, List.map_cons, List.map_nil, List.append_toArray]
  · rintro ⟨p, out, fs⟩ s ⟨rfl, hp, ho⟩
    dsimp only at hp ho
    subst hp ho
    refine wpAny_pure ?_
    simpa using h
end Mine
end
section
open PySem PySem.W PySem.Calls PySem.Spec PyProof.Rows
set_option Elab.async false
set_option maxRecDepth 100000
set_option linter.unusedVariables false
namespace Mine
open PySem.Builtin
section
variable {C : Cx} {m : Loc} {H : PH} {Q : PV → PH → Prop} {x y : List Nat} {b c : List UInt8}
theorem meets_encode {x : List Nat} {t u : Tok} (hx : ∀ c ∈ x, c < 128) (hl : x.length ≤ sizeLine) :
    Meets («str.encode» ⟨[.str ⟨x.toArray⟩ t, .str ⟨asciiName.toArray⟩ u], []⟩) (fun _ R s => R (.ok (.ret (.bytes (x.map (·.toUInt8)).toArray s.toks))) { s with toks := s.toks + 1 }) := by
  refine .of_wp fun prog w A R s h => ?_
  rw [encode_eq]
  refine wpAny_bind (wpAny_bind (enc_ascii hx hl ?_))
  exact wpAny_mkBytes (wpAny_pure ⟨_, rfl, h⟩) (by simpa using hl)
theorem ca_encode (hx : ∀ c ∈ x, c < 128) (hl : x.length ≤ 16777216) (h : Q (.bytes (x.map (·.toUInt8))) H) : Ca C m (.builtin "str.encode") [.str x, .str asciiName] [] H Q := by
  refine ca2 fun f' v w hf hv hw R s Q' S hQ => ?_
  cases abs_builtin hf
  obtain ⟨t, rfl⟩ := abs_str hv
  obtain ⟨u, rfl⟩ := abs_str hw
  exact call_meets slot_str_encode (typeIs_str _ _ _) entry_str_encode (args_str_encode_2 _ _) (meets_encode hx (by simpa [sizeLine] using hl)) (hQ _ _ _ (S.toks _) h)
theorem meets_text_ascii {b : List UInt8} {t t1 t2 : Tok} {d : PySem.Str} (hb : ∀ c ∈ b, c.toNat < 128) (hl : b.length ≤ sizeLine) :
    Meets («_codecs.decode.text» ⟨[.bytes b.toArray t, .str ⟨asciiName.toArray⟩ t1, .none, .str d t2], []⟩) (fun _ R s => R (.ok (.ret (.str ⟨(b.map (·.toNat)).toArray⟩ s.toks))) { s with toks := s.toks + 1 }) := by
  refine .of_wp fun prog w A R s h => ?_
  show wpAny _ _ (Bytes.bytesLike _ (.bytes b.toArray t) >>= fun r => _) _ _ s
  refine wpAny_bind (wpAny_of_eq KBd.like_eq ?_)
  refine wpAny_bind (wpAny_of_eq KBd.held_eq ?_)
  show wpAny _ _ (_codecs.decodeRoad _ b.toArray ⟨asciiName.toArray⟩ none [] >>= fun v => _) _ _ s
  rw [road_ascii]
  refine wpAny_bind (wpAny_bind (run_ascii hb hl ?_))
  exact wpAny_mkStr (wpAny_pure ⟨_, rfl, h⟩) (by simpa [PySem.Str.length] using hl)
theorem meets_decode_ascii {c : UInt8} {cs : List UInt8} {t u : Tok} (hb : ∀ d ∈ c :: cs, d.toNat < 128) (hl : (c :: cs).length ≤ sizeLine) :
    Meets («bytes.decode» ⟨[.bytes (c :: cs).toArray t, .str ⟨asciiName.toArray⟩ u], []⟩) (fun _ R s => ∀ t' k, R (.ok (.ret (.str ⟨((c :: cs).map (·.toNat)).toArray⟩ t'))) { s with toks := k }) := by
  refine .of_wp fun prog w A R s h => ?_
  rw [decode_eq]
  refine wpAny_bind (wpAny_mkStr ?_ (by decide))
  refine wpAny_bind (wpAny_mkStr ?_ (by decide))
  refine wpAny_bind (wpAny_mkStr ?_ (by decide))
  exact wpAny_bind (call_function_meets KBd.kind_text KBd.plain_text KBd.entry_text (KBd.args_text _ _ _ _) (meets_text_ascii hb hl) (wpAny_pure ⟨_, rfl, h _ _⟩))
theorem ca_decode (hb : ∀ d ∈ b, d.toNat < 128) (hne : b ≠ []) (hl : b.length ≤ 16777216) (h : Q (.str (b.map (·.toNat))) H) : Ca C m (.builtin "bytes.decode") [.bytes b, .str asciiName] [] H Q := by
  refine ca2 fun f' v w hf hv hw R s Q' S hQ => ?_
  cases abs_builtin hf
  obtain ⟨t, rfl⟩ := abs_bytes hv
  obtain ⟨u, rfl⟩ := abs_str hw
  cases b with
  | nil => exact absurd rfl hne
  | cons c cs => exact call_meets FB.slot_bytes_decode (typeIs_bytes _ _ _) FB.entry_bytes_decode (args_bytes_decode_2 _ _) (meets_decode_ascii hb (by simpa [sizeLine] using hl)) fun t' k => hQ _ _ _ (S.toks _) h
/-- the table of bytes.maketrans -/
noncomputable def mkTable (frm to : List UInt8) : List UInt8 := ((frm.zip to).foldl (fun (t : Array UInt8) (p : UInt8 × UInt8) => t.setIfInBounds p.1.toNat p.2) ((Array.range 256).map (·.toUInt8))).toList
theorem mkTable_size (frm to : List UInt8) : (mkTable frm to).length = 256 := by
  unfold mkTable
  rw [Array.length_toList]
  generalize frm.zip to = l
  suffices h : ∀ (l : List (UInt8 × UInt8)) (a : Array UInt8), a.size = 256 → (l.foldl (fun (t : Array UInt8) (p : UInt8 × UInt8) => t.setIfInBounds p.1.toNat p.2) a).size = 256 from h l _ (by simp)
  intro l
  induction l with
  | nil => intro a h; exact h
  | cons p r ih => intro a h; rw [List.foldl_cons]; exact ih _ (by simpa using h)
theorem kind_mt : builtinKind "bytes.maketrans" = some .staticMethod := by decide +kernel
theorem entry_mt : entryFor table "bytes.maketrans" = some Builtin.«bytes.maketrans» := entryFor_of_tree (by kernel_rfl)
theorem check_mt (a b : Value) : checkBuiltinCall "bytes.maketrans" ⟨[a, b], []⟩ = pure () := by kernel_rfl
theorem meets_mt {b c : List UInt8} {t u : Tok} (hl : b.length = c.length) : Meets («bytes.maketrans» ⟨[.bytes b.toArray t, .bytes c.toArray u], []⟩) (fun _ R s => R (.ok (.ret (.bytes (mkTable b c).toArray s.toks))) { s with toks := s.toks + 1 }) := by
  refine .of_wp fun prog w A R s h => ?_
  show wpAny _ _ (Bytes.bytesLike _ (.bytes b.toArray t) >>= fun r => Bytes.bytesLike _ (.bytes c.toArray u) >>= fun q => _) _ _ s
  refine wpAny_bind (wpAny_of_eq KBd.like_eq ?_)
  refine wpAny_bind (wpAny_of_eq KBd.like_eq ?_)
  have hne : ¬ ((b.toArray.size != c.toArray.size) = true) := by simp [hl]
  rw [if_neg hne]
  refine wpAny_bind (wpAny_mkBytes (wpAny_pure ⟨_, rfl, ?_⟩) ?_)
  · simpa [mkTable] using h
  · have := mkTable_size b c
    unfold mkTable at this
    rw [Array.length_toList] at this
    exact Nat.le_trans (Nat.le_of_eq (show Array.size _ = 256 from this)) (by decide)
theorem ca_maketrans (hl : b.length = c.length) (h : Q (.bytes (mkTable b c)) H) : Ca C m (.builtin "bytes.maketrans") [.bytes b, .bytes c] [] H Q := by
  refine ca2 fun f' v w hf hv hw R s Q' S hQ => ?_
  cases abs_builtin hf
  obtain ⟨t, rfl⟩ := abs_bytes hv
  obtain ⟨u, rfl⟩ := abs_bytes hw
  exact wpAny_call (codeAny_call_builtin (by decide +kernel) entry_mt (wpAny_of_eq (check_mt _ _) ((meets_mt hl) C.prog C.w C.A (wants Q' C.E) s (hQ _ _ _ (S.toks _) h))))
theorem slot_bytes_translate : Slot "bytes" "translate" "bytes.translate" :=
  .of (owner := "bytes") (n := "translate") (by rw [typeLookup_type, builtinLookup_eq_fast]; kernel_rfl) (by decide +kernel) (by decide +kernel) (by decide +kernel)
    (by first | exact .inl (by decide +kernel) | exact .inr (by decide +kernel)) (by rw [isSubtype_type]; kernel_rfl)
theorem type_bytes_translate : typeOf (.builtin "bytes.translate") = pure (.type "method_descriptor") := by show builtinType _ = _; rw [builtinType_eq_fast]; kernel_rfl
theorem entry_bytes_translate : entryFor table "bytes.translate" = some Builtin.«bytes.translate» := entryFor_of_tree (by kernel_rfl)
theorem args_bytes_translate_2 (a b : Value) : argsOk "bytes.translate" ⟨[a, b], []⟩ := by
  unfold argsOk; rw [signature?_of (id := "bytes.translate") (n := "translate".toList.reverse) (o := ['s', 'e', 't', 'y', 'b']) (by kernel_rfl) PySem.W.FB.owner_bytes]; kernel_rfl
noncomputable def trB (tb b : List UInt8) : List UInt8 := b.map fun c => tb.getD c.toNat c
theorem meets_trB {b c : List UInt8} {t u : Tok} (hc : c.length = 256) (hl : b.length ≤ sizeLine) : Meets («bytes.translate» ⟨[.bytes b.toArray t, .bytes c.toArray u], []⟩) (fun _ R s => ∀ t' k, R (.ok (.ret (.bytes (trB c b).toArray t'))) { s with toks := k }) := by
  refine .of_wp fun prog w A R s h => ?_
  unfold «bytes.translate» Bytes.translateM
  dsimp only
  rw [if_neg (by simp), if_neg (by decide), if_neg (show ¬ (Value.bytes c.toArray u == Value.none) = true from fun h => by have := eq_of_beq h; cases this)]
  refine wpAny_bind (wpAny_of_eq KBd.like_eq ?_)
  have hne : ¬ ((c.toArray.size != 256) = true) := by simp [hc]
  rw [if_neg hne]
  refine wpAny_bind (wpAny_pure ?_)
  refine wpAny_bind (wpAny_pure ?_)
  refine wpAny_bind (wpAny_of_eq (a := b.toArray) rfl ?_)
  have e : ((b.toArray.filter fun x => !(#[] : Array UInt8).contains x).map fun d => c.toArray.getD d.toNat d) = (trB c b).toArray := by
    have e1 : (fun x : UInt8 => !(#[] : Array UInt8).contains x) = fun _ => true := by funext x; simp
    rw [e1]
    have e2 : b.filter (fun _ => true) = b := List.filter_eq_self.mpr fun _ _ => rfl
    simp [trB, List.getD, e2]
  by_cases hsame : (trB c b).toArray = b.toArray
  · rw [if_pos (by show ((b.toArray.filter fun x => !(#[] : Array UInt8).contains x).map fun d => c.toArray.getD d.toNat d) == b.toArray; rw [e, hsame]; exact beq_self_eq_true _)]
    refine wpAny_bind (wpAny_rule ?_)
    refine wpAny_bind (wpAny_of_eq (a := .bytes b.toArray t) (by kernel_rfl) ?_)
    exact wpAny_pure ⟨_, rfl, hsame ▸ h t s.toks⟩
  · rw [if_neg (by show ¬ (((b.toArray.filter fun x => !(#[] : Array UInt8).contains x).map fun d => c.toArray.getD d.toNat d) == b.toArray) = true; rw [e]; simpa using hsame)]
    refine wpAny_bind (wpAny_mkBytes (wpAny_pure ⟨_, rfl, ?_⟩) ?_)
    · show R (.ok (.ret (.bytes ((b.toArray.filter fun x => !(#[] : Array UInt8).contains x).map fun d => c.toArray.getD d.toNat d) s.toks))) _
      rw [e]; exact h _ _
    · show ((b.toArray.filter fun x => !(#[] : Array UInt8).contains x).map fun d => c.toArray.getD d.toNat d).size ≤ sizeLine
      rw [e]; simpa [trB] using hl
theorem ca_transB (hc : c.length = 256) (hl : b.length ≤ 16777216) (h : Q (.bytes (trB c b)) H) : Ca C m (.builtin "bytes.translate") [.bytes b, .bytes c] [] H Q := by
  refine ca2 fun f' v w hf hv hw R s Q' S hQ => ?_
  cases abs_builtin hf
  obtain ⟨t, rfl⟩ := abs_bytes hv
  obtain ⟨u, rfl⟩ := abs_bytes hw
  exact call_meets slot_bytes_translate (typeIs_bytes _ _ _) entry_bytes_translate (args_bytes_translate_2 _ _) (meets_trB hc (by simpa [sizeLine] using hl)) fun t' k => hQ _ _ _ (S.toks _) h
end
end Mine
end
section
open PySem PySem.W PySem.Calls PySem.Spec PyProof.Rows
set_option Elab.async false
set_option maxRecDepth 100000
set_option linter.unusedVariables false
namespace Mine
open PySem.Builtin PySem.Builtin.Str
section
variable {prog : Program} {w : World} {A : Around} {E : Value → Shared → Prop} {s : Shared}
noncomputable def strAt (es : Array DictEntry) (k : Int) : Option Value := findBy Value.isInt es k
theorem mapM_get {α β : Type} {f : α → Option β} : ∀ {l : List α} {r : List β}, l.mapM f = some r → ∀ {a}, a ∈ l → ∃ b, b ∈ r ∧ f a = some b
  | [], _, _, a, ha => nomatch ha
  | x :: l, r, h, a, ha => by
    rw [List.mapM_cons] at h
    cases hx : f x with
    | none => rw [hx] at h; cases h
    | some y =>
      rw [hx] at h
      cases hl : l.mapM f with
      | none => rw [hl] at h; cases h
      | some ys =>
        rw [hl] at h
        cases h
        rcases List.mem_cons.mp ha with rfl | ha
        · exact ⟨y, .head _, hx⟩
        · obtain ⟨b, h1, h2⟩ := mapM_get hl ha
          exact ⟨b, .tail _ h1, h2⟩
theorem mapM_look {f : DictEntry → Option (Int × List Nat)} (hf : ∀ e y, f e = some y → (∀ k, Value.isInt k e.key = (k == y.1)) ∧ abs e.val = .str y.2) (k : Int) : ∀ {l : List DictEntry} {r : List (Int × List Nat)}, l.mapM f = some r →
    ((l.find? fun e => Value.isInt k e.key).map fun e => abs e.val) = (r.lookup k).map PV.str
  | [], _, h => by cases h; rfl
  | x :: l, r, h => by
    rw [List.mapM_cons] at h
    cases hx : f x with
    | none => rw [hx] at h; cases h
    | some y =>
      rw [hx] at h
      cases hl : l.mapM f with
      | none => rw [hl] at h; cases h
      | some ys =>
        rw [hl] at h
        cases h
        obtain ⟨h1, h2⟩ := hf x y hx
        have ih := mapM_look hf k hl
        obtain ⟨y1, y2⟩ := y
        rw [List.find?_cons, h1 k, List.lookup_cons]
        cases hk : k == y1 with
        | true => simpa using h2
        | false => exact ih
noncomputable def entryView (e : DictEntry) : Option (Int × List Nat) := match e.key, e.val with
    | .int k _, .str v _ => if e.hash == hashInt k then some (k, v.cps.toList) else none
    | _, _ => none
theorem entry_ok {e : DictEntry} {y : Int × List Nat} (h : entryView e = some y) : ∃ t v u, e.key = .int y.1 t ∧ e.val = .str v u ∧ v.cps.toList = y.2 ∧ e.hash = hashInt y.1 := by
  obtain ⟨hh, ke, ve⟩ := e
  unfold entryView at h
  dsimp only at h
  split at h
  · rename_i k t v u
    split at h
    · rename_i e
      cases h
      exact ⟨t, v, u, rfl, rfl, rfl, eq_of_beq e⟩
    · cases h
  · cases h
theorem view_map {o : Obj} {L : List (Int × List Nat)} (hv : dictView o = some L) {h : Heap} {d : Addr} (ho : h.get? d = some o) :
    ∃ f : Int → Option Value, h.MapOf (intKind prog w) d f ∧ ∀ k, (f k).map abs = (L.lookup k).map PV.str := by
  obtain ⟨cls, dict, data, slots⟩ := o
  unfold dictView at hv
  split at hv
  · rename_i es n sl heq
    have e1 : cls = .type "dict" := congrArg Obj.cls heq
    have e2 : dict = none := congrArg Obj.dict heq
    have e3 : data = .dict es n := congrArg Obj.data heq
    have e4 : slots = sl := congrArg Obj.slots heq
    subst e1 e2 e3 e4
    split at hv
    · rename_i hsl
      have hsl' : slots = #[] := by simpa using hsl
      refine ⟨fun k => findBy Value.isInt es k, ⟨_, es, n, ho, ⟨rfl, rfl, hsl'⟩, rfl, fun e he => ?_, fun k => rfl⟩, fun k => ?_⟩
      · have hv' : es.toList.mapM entryView = some L := hv
        obtain ⟨y, hk, hy⟩ := mapM_get hv' (Array.mem_toList_iff.mpr he)
        obtain ⟨t, v, u, h1, h2, h3, h4⟩ := entry_ok hy
        exact ⟨y.1, by rw [h1]; exact intKind_is prog w _ _, h4⟩
      · have hv' : es.toList.mapM entryView = some L := hv
        have := mapM_look (f := entryView) (fun e y he => by
          obtain ⟨t, v, u, h1, h2, h3, h4⟩ := entry_ok he
          refine ⟨fun k => ?_, ?_⟩
          · rw [h1]
            show (y.1 == k) = (k == y.1)
            exact Bool.beq_comm ..
          · rw [h2]
            show PV.str v.cps.toList = _
            rw [h3]) k hv'
        rw [← this]
        unfold findBy
        dsimp only
        rw [show es.find? (fun e => Value.isInt k e.key) = es.toList.find? (fun e => Value.isInt k e.key) by simp]
        cases es.toList.find? fun e => Value.isInt k e.key <;> rfl
    · cases hv
  · cases hv
theorem tl_miss {d : Addr} {o : Obj} {L : List (Int × List Nat)} {c : Nat} {Q : Mapped → Shared → Prop} (ho : s.heap.get? d = some o) (hv : dictView o = some L) (hd : (d == sysModules) = false) (hh : A.handled = none) (hl : L.lookup (c : Int) = none)
    (h : ∀ h' t, (∀ b ob, s.heap.get? b = some ob → h'.get? b = some ob) → Q .keep { s with heap := h', toks := t }) : wpAny (model prog w) A (tableLookup (.ref d) c) Q E s := by
  obtain ⟨f, hm, hf⟩ := view_map (prog := prog) (w := w) hv ho
  have hfn : f (c : Int) = none := by
    have := hf (c : Int)
    rw [hl] at this
    cases e : f (c : Int) with
    | none => rfl
    | some v => rw [e] at this; cases this
  unfold tableLookup
  refine wpAny_bind (wpAny_attempt (wpAny_bind (wpAny_mkInt ?_)))
  refine wpAny_getItem_missing_of (s := { s with toks := s.toks + 1 }) (intKind_is prog w _ _) hd hh hm hfn fun h' e ne => ?_
  dsimp only
  obtain ⟨ob, t, h1, h2, h3⟩ := ne.there
  refine wpAny_bind (wpAny_isInstance (T := "KeyError") (b := true) ⟨ob, h1, h2⟩ (by rw [isSubtype_type]; kernel_rfl) ?_)
  rw [if_pos rfl]
  exact wpAny_bind (wpAny_rule (wpAny_pure (h h' _ ne.keeps)))
theorem tl_hit {d : Addr} {o : Obj} {L : List (Int × List Nat)} {c : Nat} {x : List Nat} {Q : Mapped → Shared → Prop} (ho : s.heap.get? d = some o) (hv : dictView o = some L) (hl : L.lookup (c : Int) = some x)
    (h : ∀ t, Q (.text ⟨x.toArray⟩) { s with toks := t }) : wpAny (model prog w) A (tableLookup (.ref d) c) Q E s := by
  obtain ⟨f, hm, hf⟩ := view_map (prog := prog) (w := w) hv ho
  obtain ⟨v, hfv, hav⟩ : ∃ v, f (c : Int) = some v ∧ abs v = .str x := by
    have := hf (c : Int)
    rw [hl] at this
    cases e : f (c : Int) with
    | none => rw [e] at this; cases this
    | some v => rw [e] at this; exact ⟨v, rfl, by simpa using this⟩
  obtain ⟨u, rfl⟩ := abs_str hav
  unfold tableLookup
  refine wpAny_bind (wpAny_attempt (wpAny_bind (wpAny_mkInt ?_)))
  refine wpAny_getItem_of (s := { s with toks := s.toks + 1 }) (intKind_is prog w _ _) hm hfv ?_
  dsimp only
  refine wpAny_bind (wpAny_of_eq (a := none) (by kernel_rfl) ?_)
  refine wpAny_bind (wpAny_of_eq (a := some _) rfl ?_)
  exact wpAny_pure (h _)
end
theorem slot_str_translate : Slot "str" "translate" "str.translate" :=
  .of (owner := "str") (n := "translate") (by rw [typeLookup_type, builtinLookup_eq_fast]; kernel_rfl) (by decide +kernel) (by decide +kernel) (by decide +kernel)
    (by first | exact .inl (by decide +kernel) | exact .inr (by decide +kernel)) (by rw [isSubtype_type]; kernel_rfl)
theorem type_str_translate : typeOf (.builtin "str.translate") = pure (.type "method_descriptor") := by show builtinType _ = _; rw [builtinType_eq_fast]; kernel_rfl
theorem entry_str_translate : entryFor table "str.translate" = some Builtin.«str.translate» := entryFor_of_tree (by kernel_rfl)
theorem args_str_translate_2 (a b : Value) : argsOk "str.translate" ⟨[a, b], []⟩ := by
  unfold argsOk; rw [signature?_of (id := "str.translate") (n := "translate".toList.reverse) (o := ['r', 't', 's']) (by kernel_rfl) PySem.F.owner_str]; kernel_rfl
end Mine
end
section
open PySem PySem.W PySem.Calls PySem.Spec PyProof.Rows
set_option Elab.async false
set_option maxRecDepth 100000
set_option linter.unusedVariables false
namespace Mine
open PySem.Builtin PySem.Builtin.Str
section
variable {prog : Program} {w : World} {A : Around} {E : Value → Shared → Prop} {s : Shared}
noncomputable def escOf (c : Nat) : List Nat := if c ∈ specials then [92, c] else [c]
theorem trans_one {o : Obj} {L : List (Int × List Nat)} {c : Nat} {t : Tok} {d : Addr} {R : Result → Shared → Prop} (hc : c < 128) (ho : s.heap.get? d = some o) (hv : dictView o = some L) (hd : (d == sysModules) = false) (hh : A.handled = none)
    (hL : L.lookup (c : Int) = if c ∈ specials then some [92, c] else none)
    (h : ∀ h' t tk, (∀ b ob, s.heap.get? b = some ob → h'.get? b = some ob) → R (.ok (.ret (.str ⟨(escOf c).toArray⟩ t))) { s with heap := h', toks := tk }) :
    wpAny (model prog w) A.in1 («str.translate» ⟨[.str ⟨#[c]⟩ t, .ref d], []⟩) (fun fin s' => match fin with | .done f => R (.ok f) s' | .again c' => c'.quiet = true ∧ codeAny (model prog w) A c' R s') (fun e s' => R (.error e) s') s := by
  unfold «str.translate»
  refine wpAny_bind (wpAny_of_eq (a := (.str ⟨#[c]⟩ t, ⟨#[c]⟩, .ref d)) (by kernel_rfl) ?_)
  dsimp only
  rw [if_neg (by show ¬ ((1 : Nat) == 0) = true; decide)]
  have hall : (#[c].all fun x => decide (x < 128)) = true := by simp [hc]
  rw [← Array.forIn_toList, hall]
  refine wpAny_bind ?_
  rw [show (#[c] : Array Nat).toList = [c] from rfl, List.forIn_cons]
  refine wpAny_bind ?_
  dsimp only
  rw [if_neg (by decide), if_pos rfl]
  dsimp only [List.lookup]
  by_cases hcs : c ∈ specials
  · rw [if_pos hcs] at hL
    refine wpAny_bind (tl_hit ho hv hL fun t1 => ?_)
    dsimp only
    rw [if_neg (by show ¬ (((2 : Nat) == 1) && _) = true; simp)]
    refine wpAny_bind (wpAny_pure ?_)
    dsimp only
    refine wpAny_bind (wpAny_rule ?_)
    rw [if_neg (by decide)]
    refine wpAny_bind (tl_hit ho hv hL fun t2 => ?_)
    dsimp only
    refine wpAny_pure ?_
    dsimp only
    rw [List.forIn_nil]
    refine wpAny_pure ?_
    dsimp only
    rw [if_neg (by show ¬ (tooLong (0 + 2)) = true; decide)]
    refine wpAny_bind (wpAny_mkStr ?_ (by show (2 : Nat) ≤ sizeLine; decide))
    refine wpAny_pure ?_
    have e : escOf c = [92, c] := if_pos hcs
    rw [e] at h
    exact h s.heap _ _ fun _ _ e => e
  · rw [if_neg hcs] at hL
    refine wpAny_bind (tl_miss ho hv hd hh hL fun h' t1 hk => ?_)
    dsimp only
    refine wpAny_bind (wpAny_pure ?_)
    dsimp only
    refine wpAny_pure ?_
    dsimp only
    rw [List.forIn_nil]
    refine wpAny_pure ?_
    dsimp only
    rw [if_neg (by show ¬ (tooLong (0 + 1)) = true; decide)]
    refine wpAny_bind (wpAny_mkStr ?_ (by show (1 : Nat) ≤ sizeLine; decide))
    refine wpAny_pure ?_
    have e : escOf c = [c] := if_neg hcs
    rw [e] at h
    exact h h' _ _ hk
end
theorem special_look (c : Nat) : (specials.map fun (c : Nat) => ((c : Int), [92, c])).lookup (c : Int) = if c ∈ specials then some [92, c] else none := by
  generalize specials = l
  induction l with
  | nil => rfl
  | cons a r ih =>
    rw [List.map_cons, List.lookup_cons]
    by_cases e : c = a
    · subst e; simp
    · have e1 : ((c : Int) == (a : Int)) = false := beq_false_of_ne fun h => e (Int.ofNat.inj h)
      rw [e1]
      simp only [ih, List.mem_cons, e, false_or]
theorem ca_transS {C : Cx} {m : Loc} {H : PH} {Q : PV → PH → Prop} (O : C.Ok) (F : KF C.K) {c : Nat} (hc : c < 128) (h : Q (.str (escOf c)) H) : Ca C m (.builtin "str.translate") [.str [c], .ref 52] [] H Q := by
  refine ca2 fun f' v w hf hv hw R s Q' S hQ => ?_
  cases abs_builtin hf
  obtain ⟨t, rfl⟩ := abs_str hv
  cases abs_ref hw
  obtain ⟨mr, news, S'⟩ := id S
  have hs := F.spc
  cases ho : C.K.lookup 52 with
  | none => rw [ho] at hs; cases hs
  | some o =>
    rw [ho] at hs
    have hheap : s.heap.get? 52 = some o := S'.fr.keep _ _ (O.kin _ _ ho)
    exact wpAny_call (codeAny_call_builtin slot_str_translate.plain entry_str_translate (slot_str_translate.check _ _ _ _ _ _ _ _ (typeIs_str _ _ _) (args_str_translate_2 _ _)
      (trans_one (R := wants Q' C.E) hc hheap hs (by decide +kernel) O.hand (special_look c) fun h' t tk hk => hQ _ _ _ (S.keeps hk tk) h)))
end Mine
end
section
open PySem PySem.W PySem.Calls PySem.Spec PyProof.Rows
set_option Elab.async false
set_option maxRecDepth 100000
set_option linter.unusedVariables false
namespace Mine
noncomputable def msgOf (i : Int) : PySem.Str := Str.ofString "Invalid base64-encoded string: number of data characters (" ++ Str.ofString (toString i) ++ Str.ofString ") cannot be 1 more than a multiple of 4"
theorem mod_msg {prog : Program} {w : World} {A : Around} {E : Value → Shared → Prop} {s : Shared} {n : Int} {t u : Tok} {Q : Value → Shared → Prop} (h0 : 0 ≤ n) (h1 : n < 10 ^ 10)
    (h : ∀ t' k, Q (.str (msgOf n) t') { s with toks := k }) :
    wpAny (model prog w) A (binaryOp .Mod (.str (Str.ofString "Invalid base64-encoded string: number of data characters (%d) cannot be 1 more than a multiple of 4") t) (.int n u)) Q E s := by
  refine' KPc.mod_int (T := msgOf) ?kpcF h0 h1 ?kpcm h
  case kpcF => kpc_eq
  case kpcm => unfold msgOf; kpc_run

theorem SimW.of_news {C : Cx} {R : List (Addr × Obj)} {m : Loc} {H : PH} {s : Shared} {mr news} (S : SimW C R m H s mr news) {a : Addr} {o : Obj} {po : PO} {h' : Heap} (hr : po.Rep o) (ha : s.heap.objs.size ≤ a) (F : Fr C.h₀ C.env.locals h' mr) (N : News C.h₀ C.env.locals h' ((a, o) :: news)) (t : Nat) :
    H a = none ∧ Sim C R m (H.set a po) { s with heap := h', toks := t } := by
  have hne : ∀ p ∈ news, p.1 ≠ a := fun p hp e => by
    have h1 := Heap.lt_size (S.nw p hp).1
    rw [e] at h1
    exact absurd (Nat.lt_of_lt_of_le h1 ha) (Nat.lt_irrefl _)
  have hH : H a = none := by
    cases q : H a with
    | none => rfl
    | some po' => obtain ⟨x, h1, _⟩ := S.view _ _ q; exact absurd rfl (hne _ h1)
  refine ⟨hH, mr, (a, o) :: news, ?_⟩
  obtain ⟨h, t', rfl⟩ := S.st
  refine ⟨⟨h', t, rfl⟩, F, N, fun p hp => ?_, S.loc, fun j y k v hj hk hm => ?_, fun y d hd => ?_, fun b po' hb => ?_⟩
  · obtain ⟨h1, h2⟩ := S.rest p hp
    exact ⟨.tail _ h1, by show (if p.1 = a then _ else _) = _; rw [if_neg (hne p h1)]; exact h2⟩
  · obtain ⟨c, o', w, e1, e2, e3, e4⟩ := S.cel _ _ _ _ hj hk hm
    exact ⟨c, o', w, e1, .tail _ e2, e3, e4⟩
  · obtain ⟨e1, e2, o', w, e3, e4⟩ := S.celS _ _ hd
    exact ⟨by show (if d = a then _ else _) = _; rw [if_neg (hne _ e3)]; exact e1, e2, o', w, .tail _ e3, e4⟩
  · have hb' : (if b = a then some po else H b) = some po' := hb
    by_cases e : b = a
    · rw [if_pos e] at hb'
      cases hb'
      exact ⟨o, by rw [show b = a from e]; exact .head _, hr⟩
    · rw [if_neg e] at hb'
      obtain ⟨o', h1, h2⟩ := S.view _ _ hb'
      exact ⟨o', .tail _ h1, h2⟩
theorem join_flat (l : List (List Nat)) : (Txt.join ⟨#[]⟩ (l.map fun y => (⟨y.toArray⟩ : PySem.Str))).cps.toList = l.flatten := by
  show (PySem.Builtin.Str.glued ⟨#[]⟩ _).cps.toList = _
  rw [StrLaws.glued_eq_join]
  induction l with
  | nil => rfl
  | cons y r ih =>
    cases r with
    | nil => show ((⟨y.toArray⟩ : PySem.Str)).cps.toList = _; simp
    | cons z r =>
      show ((⟨y.toArray⟩ : PySem.Str) ++ ⟨#[]⟩ ++ Str.join ⟨#[]⟩ _).cps.toList = _
      rw [PySem.Str.cps_append, PySem.Str.cps_append, Array.toList_append, ih]
      simp
noncomputable def find1 (x : List Nat) (c : Nat) : Int := match x.findIdx? (· == c) with | some i => (i : Int) | none => -1
theorem find_one (x : List Nat) (c : Nat) : Txt.find ⟨x.toArray⟩ ⟨#[c]⟩ = find1 x c := by
  have h1 := StrLaws.occ_head ⟨x.toArray⟩ ⟨#[c]⟩ 1 (Nat.le_refl _)
  have hat : ∀ i, StrLaws.At ⟨x.toArray⟩ ⟨#[c]⟩ (⟨x.toArray⟩ : PySem.Str).length i ↔ x[i]? = some c := fun i => by
    have := StrLaws.subAt_one ⟨x.toArray⟩ c i
    simpa [StrLaws.At] using this
  unfold Txt.find find1
  rcases h1 with ⟨h0, hn⟩ | ⟨i, r, h0, ha, hn⟩
  · rw [h0]
    have : x.findIdx? (· == c) = none := by
      rw [List.findIdx?_eq_none_iff]
      intro y hy
      obtain ⟨i, hi⟩ := List.mem_iff_getElem?.mp hy
      cases e : y == c with
      | false => rfl
      | true => exact absurd ((hat i).mpr (by rw [hi, eq_of_beq e])) (hn i)
    rw [this]
  · rw [h0]
    have hi := (hat i).mp ha
    have hlt : i < x.length := (List.getElem?_eq_some_iff.mp hi).1
    have : x.findIdx? (· == c) = some i := by
      rw [List.findIdx?_eq_some_iff_getElem]
      refine ⟨hlt, ?_, fun j hj => ?_⟩
      · have := (List.getElem?_eq_some_iff.mp hi).2
        rw [this]; exact beq_self_eq_true _
      · have hjl : j < x.length := Nat.lt_trans hj hlt
        have := hn j hj
        rw [hat] at this
        rw [List.getElem?_eq_getElem hjl] at this
        simpa using this
    rw [this]
section
variable {C : Cx} {m : Loc} {H : PH} {Q : PV → PH → Prop} {x y : List Nat} {a b : Addr} {c : Nat}
theorem ca_find (h : Q (.int (find1 x c)) H) : Ca C m (.builtin "str.find") [.str x, .str [c]] [] H Q := by
  refine ca2 fun f' v w hf hv hw R s Q' S hQ => ?_
  cases abs_builtin hf
  obtain ⟨t, rfl⟩ := abs_str hv
  obtain ⟨u, rfl⟩ := abs_str hw
  refine SC.find (hQ _ _ _ (S.toks _) ?_)
  show Q (.int (Txt.find ⟨x.toArray⟩ ⟨#[c]⟩)) H
  rw [find_one]; exact h
theorem ca_join {ys : List (List Nat)} (hH : H a = some (.list (ys.map .str))) (hl : (ys.map (·.length)).sum ≤ 16777216) (h : Q (.str ys.flatten) H) : Ca C m (.builtin "str.join") [.str [], .ref a] [] H Q := by
  refine ca2 fun f' v w hf hv hw R s Q' S hQ => ?_
  cases abs_builtin hf
  obtain ⟨t, rfl⟩ := abs_str hv
  cases abs_ref hw
  obtain ⟨vs, hL, hx⟩ := S.list hH
  refine join_list hL (strsAre_of hx) ?_ fun t' k => hQ _ _ _ (S.toks k) ?_
  · have : ((ys.map fun y => (⟨y.toArray⟩ : PySem.Str)).map (·.length)) = ys.map (·.length) := by
      rw [List.map_map]; exact List.map_congr_left fun y _ => by simp [PySem.Str.length]
    rw [this]
    simpa [PySem.Str.length] using hl
  · show Q (.str (Txt.join ⟨#[]⟩ (ys.map fun y => (⟨y.toArray⟩ : PySem.Str))).cps.toList) H
    rw [join_flat]; exact h
theorem ca_replace0 (hn : c ∉ x) (h : Q (.str x) H) : Ca C m (.builtin "str.replace") [.str x, .str [c], .str y] [] H Q := by
  refine ca3 fun f' v w u hf hv hw hu R s Q' S hQ => ?_
  cases abs_builtin hf
  obtain ⟨t, rfl⟩ := abs_str hv
  obtain ⟨t1, rfl⟩ := abs_str hw
  obtain ⟨t2, rfl⟩ := abs_str hu
  have hocc : PySem.Builtin.Str.occurrences ⟨x.toArray⟩ ⟨#[c]⟩ 0 (⟨x.toArray⟩ : PySem.Str).length ((⟨x.toArray⟩ : PySem.Str).length + 1) = [] := by
    rcases StrLaws.occ_head ⟨x.toArray⟩ ⟨#[c]⟩ ((⟨x.toArray⟩ : PySem.Str).length + 1) (by omega) with ⟨h0, _⟩ | ⟨i, r, h0, ha, _⟩
    · exact h0
    · exfalso
      have := (StrLaws.subAt_one ⟨x.toArray⟩ c i).mp ha
      exact hn (List.mem_of_getElem? (by simpa using this))
  have he : ((PySem.Builtin.Str.occurrences ⟨x.toArray⟩ ⟨[c].toArray⟩ 0 (⟨x.toArray⟩ : PySem.Str).length ((⟨x.toArray⟩ : PySem.Str).length + 1)).isEmpty || ((⟨[c].toArray⟩ : PySem.Str).length == 0 && (⟨y.toArray⟩ : PySem.Str).length == 0)) = true := by
    rw [show (⟨[c].toArray⟩ : PySem.Str) = ⟨#[c]⟩ from rfl, hocc]; rfl
  refine call_gives F.slot_str_replace (typeIs_str _ _ _) F.entry_str_replace (F.args_str_replace_3 _ _ _) (gives_str_replace _ _ _ _ _ _ fun h0 => absurd (he.symm.trans h0) (by decide)) ?_
  rw [if_pos he]
  exact hQ _ _ _ S h
theorem bin_mulS {n : Int} (h0 : 0 ≤ n) (h1 : n ≤ 1000) (h : Q (.str (List.replicate n.toNat c)) H) : Bin C m (binaryOp .Mult) (.str [c]) (.int n) H Q := by
  intro v w hv hw R s Q' S hQ
  obtain ⟨t, rfl⟩ := abs_str hv
  obtain ⟨u, rfl⟩ := abs_int hw
  refine SB.mul ⟨?_, fun hn hb => ?_, fun hn hb => ?_⟩ fun t' k => hQ _ _ _ (S.toks k) ?_
  · have h2 : ¬ n < -(2 ^ 63 : Int) := by omega
    have h3 : ¬ n ≥ 2 ^ 63 := by omega
    rw [decide_eq_false h2, decide_eq_false h3]; rfl
  · have : (1 : Int) ≤ (2 ^ 63 - 1) / n := by
      rw [Int.le_ediv_iff_mul_le (by omega)]; omega
    show ¬ ((1 : Int) > (2 ^ 63 - 1) / n)
    exact Int.not_lt.mpr this
  · show decide (_ > sizeLine) = false
    refine decide_eq_false ?_
    simp [PySem.Str.length, sizeLine]
    omega
  · have e : (Txt.mul ⟨[c].toArray⟩ n).cps.toList = List.replicate n.toNat c := by
      unfold Txt.mul
      split
      · have : n.toNat = 0 := by omega
        rw [this]; rfl
      · split
        · rename_i h5
          have : n = 1 := by simpa [PySem.Str.length] using h5
          subst this
          rfl
        · have key : ∀ k, ((List.replicate k (#[c] : Array Nat)).foldl (· ++ ·) #[]).toList = List.replicate k c := by
            intro k
            have g : ∀ (k : Nat) (acc : Array Nat), ((List.replicate k (#[c] : Array Nat)).foldl (· ++ ·) acc).toList = acc.toList ++ List.replicate k c := by
              intro k
              induction k with
              | zero => intro acc; simp
              | succ k ih => intro acc; rw [List.replicate_succ, List.foldl_cons, ih]; simp [List.replicate_succ]
            simpa using g k #[]
          exact key _
    show Q (.str (Txt.mul ⟨[c].toArray⟩ n).cps.toList) H
    rw [e]; exact h
theorem bin_addL {xs ys : List PV} (hx : H a = some (.list xs)) (hy : H b = some (.list ys)) (hl : xs.length + ys.length ≤ 16777216) (h : ∀ d, H d = none → Q (.ref d) (H.set d (.list (xs ++ ys)))) : Bin C m (binaryOp .Add) (.ref a) (.ref b) H Q := by
  intro v w hv hw R s Q' S hQ
  cases abs_ref hv
  cases abs_ref hw
  obtain ⟨vs, hL, rfl⟩ := S.list hx
  obtain ⟨ws, hM, rfl⟩ := S.list hy
  obtain ⟨mr, news, S⟩ := S
  refine add_arrays S.fr S.nw hL hM (fun h' F N => ?_) (by simpa [sizeLine] using hl)
  obtain ⟨hn, S2⟩ := S.of_news (po := .list (vs.toList.map abs ++ ws.toList.map abs)) ⟨_, 0, rfl, by simp⟩ (Nat.le_refl _) F N s.toks
  exact hQ _ _ _ S2 (h _ hn)
noncomputable def fmtMsg : List Nat := (Str.ofString "Invalid base64-encoded string: number of data characters (%d) cannot be 1 more than a multiple of 4").cps.toList
theorem bin_modMsg {n : Int} (h0 : 0 ≤ n) (h1 : n < 10 ^ 10) (h : Q (.str (msgOf n).cps.toList) H) : Bin C m (binaryOp .Mod) (.str fmtMsg) (.int n) H Q := by
  intro v w hv hw R s Q' S hQ
  obtain ⟨t, rfl⟩ := abs_str hv
  obtain ⟨u, rfl⟩ := abs_int hw
  exact mod_msg h0 h1 fun t' k => hQ _ _ _ (S.toks k) h
theorem ev_or2 {e1 e2 : Expr} {pos : Pos} (h : Ev C e1 m H (fun v H1 => Tr C m v H1 (fun t H2 => if t = true then Q v H2 else Ev C e2 m H2 Q))) : Ev C (.BoolOp .Or [e1, e2] pos) m H Q :=
  fun R s Q' S hQ => wpAny_Or2 (h R s _ S fun v H1 s1 S1 q => q v rfl R s1 _ S1 fun t H2 s2 S2 q2 => by
    cases t with
    | true => exact hQ _ _ _ S2 q2
    | false => exact (show Ev C e2 m H2 Q by simpa using q2) R s2 Q' S2 hQ)
end
end Mine
end
section
open PySem PySem.W PySem.Calls PySem.Spec PyProof.Rows
set_option Elab.async false
set_option maxRecDepth 100000
set_option linter.unusedVariables false
namespace Mine
/-- a store at a place -/
noncomputable def StoreAt (C : Cx) (t : Value → Sem Unit) (i : Nat) : Prop := ∀ w R m H s (Q' : Unit → Shared → Prop), Sim C R m H s → (∀ s', Sim C R (m.set i (some (abs w))) H s' → Q' () s') → wpAny (model C.prog C.w) C.A (t w) Q' C.E s
noncomputable def setAll : Loc → List Nat → List PV → Loc
  | m, i :: is, v :: vs => setAll (m.set i (some v)) is vs
  | m, _, _ => m
inductive StoresAt (C : Cx) : List (Value → Sem Unit) → List Nat → Prop where
  | nil : StoresAt C [] []
  | cons {t ts i is} : StoreAt C t i → StoresAt C ts is → StoresAt C (t :: ts) (i :: is)
theorem storeAt_name {C : Cx} (O : C.Ok) {x : Str} {p : Pos} {i : Nat} (hx : Slot' C x i) : StoreAt C (assign (.Name x p) C.env) i := fun w R m H s Q' S h => wpAny_assign_Name (store_any O hx S h)
theorem storeAt_bind {C : Cx} (O : C.Ok) {x : Str} {i : Nat} (hx : Slot' C x i) : StoreAt C (bindName C.env x) i := fun w R m H s Q' S h => bindName_ (store_any O hx S h)
theorem stores_run {C : Cx} {R : List (Addr × Obj)} {H : PH} : ∀ {ts : List (Value → Sem Unit)} {is : List Nat}, StoresAt C ts is → ∀ (vs : List Value) (m : Loc) (s : Shared) (Q' : Unit → Shared → Prop), vs.length = ts.length → Sim C R m H s →
    (∀ s', Sim C R (setAll m is (vs.map abs)) H s' → Q' () s') → wpAny (model C.prog C.w) C.A (assignInOrder ts vs) Q' C.E s
  | _, _, .nil, vs, m, s, Q', hl, S, h => assignInOrder_nil (h s (by cases vs with | nil => exact S | cons _ _ => simp at hl))
  | _, _, .cons ht hts, vs, m, s, Q', hl, S, h => by
    cases vs with
    | nil => simp at hl
    | cons v vs => exact assignInOrder_cons (ht v R m H s _ S fun s' S' => stores_run hts vs _ s' Q' (by simpa using hl) S' h)
section
variable {C : Cx} {m : Loc} {H : PH} {Q : FL → Loc → PH → Prop} {value : Expr} {elts : List Expr} {k : Nat} {tpos pos : Pos} {names : List Str} {is : List Nat}
theorem ex_unpack (O : C.Ok) (hts : StoresAt C ((assignEach elts C.env).map (·.2)) is) (hstar : (assignEach elts C.env).findIdx? (·.1) = none)
    (h : Ev C value m H (fun v H1 => ∃ a vs, v = .ref a ∧ H1 a = some (.tuple vs) ∧ vs.length = (assignEach elts C.env).length ∧ Q .next (setAll m is vs) H1))
    (hs : swapsWithSole [.Tuple elts k tpos] value pos.line C.env = pure false) (hw : swappedStores [.Tuple elts k tpos] value C.env = pure none) :
    Ex1 C (.Assign [.Tuple elts k tpos] value pos) m H Q := by
  intro R s Q' S hQ
  refine Assign_Tuple (h R s _ S fun v H1 s1 S1 q => ?_) hs hw
  obtain ⟨a, vs, e, hH, hl, q⟩ := q
  cases abs_ref e
  obtain ⟨us, hT, hx⟩ := tup_is S1 hH
  have hlen : us.length = (assignEach elts C.env).length := by rw [← hl, ← hx, List.length_map]
  refine assign_Tuple_tuple O.hand hT (by simpa using hlen.symm) hstar fun h' he => ?_
  have S2 : Sim C R m H1 { s1 with heap := h' } := S1.keeps (fun b o e => he b o (Nat.ne_of_lt (Heap.lt_size e)) e) s1.toks
  exact stores_run hts us m _ _ (by simpa using hlen) S2 fun s' S' => hQ .next _ _ _ S' (hx ▸ q)
theorem ex_swapped (O : C.Ok) (hts : StoresAt C (names.reverse.map fun n => bindName C.env n) is)
    (h : Ev C value m H (fun v H1 => ∃ a vs, v = .ref a ∧ H1 a = some (.tuple vs) ∧ vs.length = names.length ∧ Q .next (setAll m is vs.reverse) H1))
    (hs : swapsWithSole [.Tuple elts k tpos] value pos.line C.env = pure false) (hw : swappedStores [.Tuple elts k tpos] value C.env = pure (some names)) :
    Ex1 C (.Assign [.Tuple elts k tpos] value pos) m H Q := by
  intro R s Q' S hQ
  refine Assign_Tuple_swapped (h R s _ S fun v H1 s1 S1 q => ?_) hs hw
  obtain ⟨a, vs, e, hH, hl, q⟩ := q
  cases abs_ref e
  obtain ⟨us, hT, hx⟩ := tup_is S1 hH
  have hlen : us.length = names.length := by rw [← hl, ← hx, List.length_map]
  have hsz : names.length = us.toArray.size := by simpa using hlen.symm
  rw [hsz]
  refine unpackItems_tuple O.hand hT fun h' he => ?_
  have S2 : Sim C R m H1 { s1 with heap := h' } := S1.keeps (fun b o e => he b o (Nat.ne_of_lt (Heap.lt_size e)) e) s1.toks
  refine stores_run hts _ m _ _ (by simpa using hlen) S2 fun s' S' => hQ .next _ _ _ S' ?_
  have : us.toArray.toList.reverse.map abs = vs.reverse := by rw [← hx, List.map_reverse]
  exact this ▸ q
variable {x y z u : Str} {px py pz pu : Pos} {i j l n : Nat}
theorem Ev.mono {e : Expr} {Q Q₂ : PV → PH → Prop} (h : Ev C e m H Q) (hq : ∀ b H1, Q b H1 → Q₂ b H1) : Ev C e m H Q₂ := T.mono h hq
noncomputable abbrev Unp2Q (m : Loc) (i j : Nat) (Q : FL → Loc → PH → Prop) : PV → PH → Prop := fun v H1 => ∃ a u1 u2, v = .ref a ∧ H1 a = some (.tuple [u1, u2]) ∧ Q .next ((m.set i (some u1)).set j (some u2)) H1
noncomputable abbrev Unp4Q (m : Loc) (i j l n : Nat) (Q : FL → Loc → PH → Prop) : PV → PH → Prop := fun v H1 => ∃ a u1 u2 u3 u4, v = .ref a ∧ H1 a = some (.tuple [u1, u2, u3, u4]) ∧ Q .next ((((m.set i (some u1)).set j (some u2)).set l (some u3)).set n (some u4)) H1
noncomputable abbrev Swp2Q (m : Loc) (i j : Nat) (Q : FL → Loc → PH → Prop) : PV → PH → Prop := fun v H1 => ∃ a u1 u2, v = .ref a ∧ H1 a = some (.tuple [u1, u2]) ∧ Q .next ((m.set j (some u2)).set i (some u1)) H1
noncomputable abbrev Swp3Q (m : Loc) (i j l : Nat) (Q : FL → Loc → PH → Prop) : PV → PH → Prop := fun v H1 => ∃ a u1 u2 u3, v = .ref a ∧ H1 a = some (.tuple [u1, u2, u3]) ∧ Q .next (((m.set l (some u3)).set j (some u2)).set i (some u1)) H1
theorem ex_unp2 (O : C.Ok) (hx : Slot' C x i) (hy : Slot' C y j)
    (h : Ev C value m H (Unp2Q m i j Q))
    (hs : swapsWithSole [.Tuple [.Name x px, .Name y py] k tpos] value pos.line C.env = pure false) (hw : swappedStores [.Tuple [.Name x px, .Name y py] k tpos] value C.env = pure none) :
    Ex1 C (.Assign [.Tuple [.Name x px, .Name y py] k tpos] value pos) m H Q :=
  ex_unpack O (is := [i, j]) (.cons (storeAt_name O hx) (.cons (storeAt_name O hy) .nil)) rfl (Ev.mono h fun v H1 ⟨a, u1, u2, e, hH, q⟩ => ⟨a, _, e, hH, rfl, q⟩) hs hw
theorem ex_unp4 (O : C.Ok) (hx : Slot' C x i) (hy : Slot' C y j) (hz : Slot' C z l) (hu : Slot' C u n)
    (h : Ev C value m H (Unp4Q m i j l n Q))
    (hs : swapsWithSole [.Tuple [.Name x px, .Name y py, .Name z pz, .Name u pu] k tpos] value pos.line C.env = pure false) (hw : swappedStores [.Tuple [.Name x px, .Name y py, .Name z pz, .Name u pu] k tpos] value C.env = pure none) :
    Ex1 C (.Assign [.Tuple [.Name x px, .Name y py, .Name z pz, .Name u pu] k tpos] value pos) m H Q :=
  ex_unpack O (is := [i, j, l, n]) (.cons (storeAt_name O hx) (.cons (storeAt_name O hy) (.cons (storeAt_name O hz) (.cons (storeAt_name O hu) .nil)))) rfl
    (Ev.mono h fun v H1 ⟨a, u1, u2, u3, u4, e, hH, q⟩ => ⟨a, _, e, hH, rfl, q⟩) hs hw
theorem ex_swp2 (O : C.Ok) (hx : Slot' C x i) (hy : Slot' C y j)
    (h : Ev C value m H (Swp2Q m i j Q))
    (hs : swapsWithSole [.Tuple [.Name x px, .Name y py] k tpos] value pos.line C.env = pure false) (hw : swappedStores [.Tuple [.Name x px, .Name y py] k tpos] value C.env = pure (some [x, y])) :
    Ex1 C (.Assign [.Tuple [.Name x px, .Name y py] k tpos] value pos) m H Q :=
  ex_swapped O (names := [x, y]) (is := [j, i]) (.cons (storeAt_bind O hy) (.cons (storeAt_bind O hx) .nil)) (Ev.mono h fun v H1 ⟨a, u1, u2, e, hH, q⟩ => ⟨a, _, e, hH, rfl, q⟩) hs hw
theorem ex_swp3 (O : C.Ok) (hx : Slot' C x i) (hy : Slot' C y j) (hz : Slot' C z l)
    (h : Ev C value m H (Swp3Q m i j l Q))
    (hs : swapsWithSole [.Tuple [.Name x px, .Name y py, .Name z pz] k tpos] value pos.line C.env = pure false) (hw : swappedStores [.Tuple [.Name x px, .Name y py, .Name z pz] k tpos] value C.env = pure (some [x, y, z])) :
    Ex1 C (.Assign [.Tuple [.Name x px, .Name y py, .Name z pz] k tpos] value pos) m H Q :=
  ex_swapped O (names := [x, y, z]) (is := [l, j, i]) (.cons (storeAt_bind O hz) (.cons (storeAt_bind O hy) (.cons (storeAt_bind O hx) .nil))) (Ev.mono h fun v H1 ⟨a, u1, u2, u3, e, hH, q⟩ => ⟨a, _, e, hH, rfl, q⟩) hs hw
end
end Mine
end
section
open PySem PySem.W PySem.Calls PySem.Spec PyProof.Rows
set_option Elab.async false
set_option maxRecDepth 100000
set_option linter.unusedVariables false
namespace Mine
noncomputable abbrev CkwQ3 (C : Cx) (m : Loc) (name : Str) (fv : PV) (vs : List PV) (Q : PV → PH → Prop) : PV → PH → Prop := fun kv H3 => Ca C m fv vs [(name, kv)] H3 Q
noncomputable abbrev CkwQ2 (C : Cx) (m : Loc) (e : Expr) (name : Str) (fv : PV) (Q : PV → PH → Prop) : List PV → PH → Prop := fun vs H2 => Ev C e m H2 (CkwQ3 C m name fv vs Q)
noncomputable abbrev CkwQ (C : Cx) (m : Loc) (es : List Expr) (e : Expr) (name : Str) (Q : PV → PH → Prop) : PV → PH → Prop := fun fv H1 => Kp C fv ∧ Eas C m es H1 (CkwQ2 C m e name fv Q)
section
variable {C : Cx} {m : Loc} {H : PH} {Q : PV → PH → Prop} {pos kp : Pos} {func a e : Expr} {r : List Expr} {name : Str}
theorem ev_callkw (h : Ev C func m H (CkwQ C m (a :: r) e name Q))
    (he : ∀ env, eval (.Call func (a :: r) [⟨some name, e, kp⟩] pos) env = (do callWith pos (← eval func env) [] (backTo pos (starEach (a :: r) env)) (backToKw pos (keywordEach [⟨some name, e, kp⟩] env))) := by intro _; rfl)
    (hs : (a :: r).all noStar = true := by rfl) : Ev C (.Call func (a :: r) [⟨some name, e, kp⟩] pos) m H Q := by
  intro R s Q' S hQ
  rw [he]
  refine wpAny_bind (h _ s _ S fun fv H1 s1 S1 q => ?_)
  refine callWith_of (P := fun h => ∃ s', s'.heap = h ∧ ∃ R m H, Sim C R m H s') (by rw [eas_plain hs]; rfl) (fun h ⟨s', e, x⟩ => e ▸ q.1 fv s' rfl x) ?_
  have hs' := hs
  rw [List.all_cons, Bool.and_eq_true] at hs'
  have sp := eas_spliced (pos := pos) hs q.2 R s1 (fun vs s2 => wpAny (model C.prog C.w) C.A (evalAll ((backToKw pos (keywordEach [⟨some name, e, kp⟩] C.env)).map (·.2))) (fun ks s3 => (∃ s', s'.heap = s3.heap ∧ ∃ R m H, Sim C R m H s') ∧ wpAny (model C.prog C.w) C.A (call fv ([] ++ vs) (((backToKw pos (keywordEach [⟨some name, e, kp⟩] C.env)).filterMap (·.1)).zip ks)) Q' C.E s3) C.E s2) S1 fun vs H2 s2 S2 q2 => ?_
  · rw [starEach_of hs'.1] at sp ⊢
    exact evalArgs_kw rfl sp
  · refine evalAll_cons (wpAny_bind (q2 R s2 _ S2 fun kv H3 s3 S3 q3 => wpAny_bind (wpAny_standAt (wpAny_pure (evalAll_nil ⟨⟨s3, rfl, _, _, _, S3⟩, ?_⟩)))))
    exact q3 fv vs [(name, kv)] rfl rfl rfl R s3 Q' S3 hQ
end
end Mine
end
section
open PySem PySem.W PySem.Calls PySem.Spec PyProof.Rows
set_option Elab.async false
set_option maxRecDepth 100000
set_option linter.unusedVariables false
namespace Mine
noncomputable def boundApp (a : Addr) : Obj := { cls := .type "builtin_function_or_method", data := .fields #[.builtin "list.append", .ref a] }
theorem md_slot : Slot "method_descriptor" "__get__" "method_descriptor.__get__" :=
  .of (owner := "method_descriptor") (n := "__get__") (by rw [typeLookup_type, builtinLookup_eq_fast]; kernel_rfl) (by decide +kernel) (by decide +kernel) (by decide +kernel)
    (by first | exact .inl (by decide +kernel) | exact .inr (by decide +kernel)) (by rw [isSubtype_type]; kernel_rfl)
theorem md_entry : entryFor table "method_descriptor.__get__" = some Builtin.«method_descriptor.__get__» := entryFor_of_tree (by kernel_rfl)
theorem md_args (a b c : Value) : argsOk "method_descriptor.__get__" ⟨[a, b, c], []⟩ := by unfold argsOk; kernel_rfl
theorem md_set : typeLookup (.type "method_descriptor") "__set__" = pure none := by rw [typeLookup_type, builtinLookup_eq_fast]; kernel_rfl
theorem md_delete : typeLookup (.type "method_descriptor") "__delete__" = pure none := by rw [typeLookup_type, builtinLookup_eq_fast]; kernel_rfl
theorem md_names : (kfb_private% "nameAndClass") (.builtin "list.append") = pure (Str.ofString "append", .type "list") := by kernel_rfl
section
variable {prog : Program} {w : World} {M : Model} {A : Around} {E : Value → Shared → Prop} {s : Shared} {a : Addr}
theorem md_run {P : PySem.Fin → Shared → Prop} (hT : s.TypeIs (.ref a) "list") (h : P (.done (.ret (.ref s.heap.objs.size))) { s with heap := s.heap.push (boundApp a) }) :
    wpAny M A (Builtin.«method_descriptor.__get__» ⟨[.builtin "list.append", .ref a, .type "list"], []⟩) P E s := by
  unfold Builtin.«method_descriptor.__get__»
  refine wpAny_bind (wpAny_of_eq (a := (.builtin "list.append", some (.ref a), some (.type "list"))) (by first | rfl | kernel_rfl) ?_)
  dsimp only
  rw [if_neg (by decide +kernel)]
  show wpAny _ _ ((kfb_private% "checkInstance") (.builtin "list.append") (.ref a) >>= fun _ => _) _ _ _
  refine wpAny_bind ?_
  show wpAny _ _ ((kfb_private% "nameAndClass") (.builtin "list.append") >>= fun _ => _) _ _ _
  refine wpAny_bind (wpAny_of_eq md_names ?_)
  dsimp only
  refine wpAny_bind (wpAny_isInstance (T := "list") (b := true) hT (by rw [isSubtype_type]; kernel_rfl) ?_)
  rw [if_neg (by decide)]
  refine wpAny_pure ?_
  refine wpAny_bind (wpAny_newObj_type ?_)
  exact wpAny_pure h
end
section
variable {prog : Program} {w : World} {A : Around} {E : Value → Shared → Prop} {h : Heap} {g : Array GenState} {d : Drawn} {t : Nat} {os : OsState} {a : Addr} {o : Obj}
theorem app_entry {tk : Tok} {Q : PySem.Fin → Shared → Prop} (hx : h.get? a = some o) (hc : o.cls = .type "list") (hdd : o.dict = none) (hsl : o.slots = #[]) {its : Array Value} {n : Nat} (hda : o.data = .seq its n) (hq : Q (.done (.ret (.ref h.objs.size))) ⟨h.push (boundApp a), g, d, t, os⟩) :
    wpAny (model prog w) A (Builtin.«object.__getattribute__» ⟨[.ref a, .str "append" tk], []⟩) Q E ⟨h, g, d, t, os⟩ := by
  have hT : (⟨h, g, d, t, os⟩ : Shared).TypeIs (.ref a) "list" := ⟨_, hx, hc⟩
  have f4 := slot_list_append.lookup
  have f5 := PySem.F.type_list_append
  have hT5 : (⟨h, g, d, t, os⟩ : Shared).TypeIs (.builtin "list.append") "method_descriptor" := f5
  have f6 := md_slot.lookup
  have f7 := md_set
  have f8 := md_delete
  obtain ⟨c, dd, da, sl⟩ := o
  dsimp only at hc hdd hda hsl
  subst hc hdd hda hsl
  repeat (any_goals (first | assumption | wp_step))
  refine codeAny_call_builtin md_slot.plain md_entry (md_slot.check _ _ _ _ _ _ _ _ hT5 (md_args _ _ _) (md_run hT ?_))
  exact wpAny_pure hq
theorem app_call {tk : Tok} {R : Result → Shared → Prop} (hx : h.get? a = some o) (hc : o.cls = .type "list") (hdd : o.dict = none) (hsl : o.slots = #[]) {its : Array Value} {n : Nat} (hda : o.data = .seq its n) (hq : R (.ok (.ret (.ref h.objs.size))) ⟨h.push (boundApp a), g, d, t, os⟩) :
    codeAny (model prog w) A (.call (.builtin "list.__getattribute__") ⟨[.ref a, .str "append" tk], []⟩) R ⟨h, g, d, t, os⟩ :=
  codeAny_call_builtin PySem.F.slot_list_getattribute.plain PySem.F.entry_list_ga (PySem.F.slot_list_getattribute.check _ _ _ _ _ _ _ _ (show (⟨h, g, d, t, os⟩ : Shared).TypeIs (.ref a) "list" from ⟨_, hx, hc⟩) (PySem.F.args_list_getattribute_2 _ _) (app_entry hx hc hdd hsl hda hq))
theorem app_get {Q : Value → Shared → Prop} {ex : Bool} (hx : h.get? a = some o) (hc : o.cls = .type "list") (hdd : o.dict = none) (hsl : o.slots = #[]) {its : Array Value} {n : Nat} (hda : o.data = .seq its n) (hq : Q (.ref h.objs.size) ⟨h.push (boundApp a), g, d, t + 1, os⟩) :
    wpAny (model prog w) A (getAttr (.ref a) "append" ex) Q E ⟨h, g, d, t, os⟩ := by
  have hT : (⟨h, g, d, t + 1, os⟩ : Shared).TypeIs (.ref a) "list" := ⟨_, hx, hc⟩
  have f2 := PySem.F.slot_list_getattribute.lookup
  have f3 := PySem.F.slot_list_getattribute.bind (.ref a)
  unfold getAttr
  refine wpAny_bind (wpAny_mkText ?_)
  dsimp only
  cases ex
  all_goals
    repeat (any_goals (first | assumption | wp_step))
  all_goals
    refine app_call hx hc hdd hsl hda ?_
    exact wpAny_pure hq
theorem sig_append : Manifest.signature? "list.append" = some ((Manifest.signature? "list.append").getD ⟨.hand, "", "", .none, []⟩) := by
  rw [signature?_of (id := "list.append") (n := ['d', 'n', 'e', 'p', 'p', 'a']) (o := ['t', 's', 'i', 'l']) (by kernel_rfl) PySem.F.owner_list]; kernel_rfl
theorem kind_append : builtinKind "list.append" = some .method := by decide +kernel
theorem full_append (a b : Value) : Bind.checkArgs "list.append" { (Manifest.signature? "list.append").getD ⟨.hand, "", "", .none, []⟩ with full := "list.append" } ⟨[a, b], []⟩ = pure () := by
  rw [signature?_of (id := "list.append") (n := ['d', 'n', 'e', 'p', 'p', 'a']) (o := ['t', 's', 'i', 'l']) (by kernel_rfl) PySem.F.owner_list]; kernel_rfl
theorem sub_list_module : isSubtype (.type "list") (.type "module") = pure false := by rw [isSubtype_type]; kernel_rfl
theorem sub_list_type : isSubtype (.type "list") (.type "type") = pure false := by rw [isSubtype_type]; kernel_rfl
theorem check_app {Q : Unit → Shared → Prop} {s : Shared} {x : Value} {its : Array Value} {n : Nat} (ho : s.heap.get? a = some { cls := .type "list", data := .seq its n }) (h : Q () s) : wpAny (model prog w) A (checkBoundCall "list.append" ⟨[.ref a, x], []⟩) Q E s := by
  have hT : s.TypeIs (.ref a) "list" := ⟨_, ho, rfl⟩
  unfold checkBoundCall
  rw [sig_append, kind_append]
  dsimp only
  rw [if_neg (by decide)]
  refine wpAny_bind (wpAny_isInstance hT sub_list_module ?_)
  rw [if_neg (by decide +kernel)]
  refine wpAny_bind ?_
  unfold isType
  dsimp only
  refine wpAny_bind (wpAny_loadPart_at ho ?_)
  refine wpAny_pure ?_
  dsimp only
  rw [if_neg (by decide)]
  refine wpAny_bind (wpAny_typeOf hT ?_)
  dsimp only
  exact wpAny_of_eq (full_append _ _) h
theorem call_app {b : Addr} {Q : Value → Shared → Prop} {s : Shared} {x : Value} {its : Array Value} {n : Nat} (hb : s.heap.get? b = some (boundApp a)) (ho : s.heap.get? a = some { cls := .type "list", data := .seq its n }) (hsz : its.size ≤ sizeLine)
    (hQ : ∀ h', h'.PlainList a (its.push x) → Heap.SameBut a s.heap h' → Q .none { s with heap := h' }) : wpAny (model prog w) A (call (.ref b) [x]) Q E s := by
  refine wpAny_call (codeAny_of_tree ?_)
  show wpAny _ A.in1 (callAny (.ref b) ⟨[x], []⟩) _ _ s
  simp only [callAny]
  refine wpAny_bind (wpAny_load hb ?_)
  simp only [boundApp, show (Value.type "builtin_function_or_method" == Value.type "method" || Value.type "builtin_function_or_method" == Value.type "builtin_function_or_method" || Value.type "builtin_function_or_method" == Value.type "method-wrapper") = true by decide, if_true]
  refine KFB.if_so (by decide) ?_
  refine wpAny_bind (check_app ho ?_)
  refine wpAny_bind (wpAny_pure (wpAny_pure ?_))
  refine ⟨Code.quiet_builtin _ (by decide +kernel), codeAny_builtin PySem.F.entry_list_append ?_⟩
  show wpAny _ _ (updateSeq a (·.push x) >>= fun _ => ret .none) _ _ s
  refine wpAny_bind ?_
  refine wpAny_updateSeq ho rfl (wpAny_pure (hQ _ ⟨n + 1, ?_⟩ (Heap.SameBut.update ..)))
  rw [Heap.get?_update_self _ ho (by rw [Obj.mapSeq_push_plain]; rfl), Obj.mapSeq_push_plain]
end
end Mine
end
section
open PySem PySem.W PySem.Calls PySem.Spec PyProof.Rows
set_option Elab.async false
set_option maxRecDepth 100000
set_option linter.unusedVariables false
namespace Mine
noncomputable abbrev BndQ (Q : PV → PH → Prop) : PV → PH → Prop := fun v H1 => ∃ a xs, v = .ref a ∧ H1 a = some (.list xs) ∧ ∀ b, H1 b = none → Q (.ref b) (H1.set b (.raw (boundApp a)))
noncomputable abbrev AppQ (a : Addr) (Q : PV → PH → Prop) : PV → PH → Prop := fun v H2 => ∃ xs, H2 a = some (.list xs) ∧ xs.length ≤ 16777216 ∧ Q .none (H2.set a (.list (xs ++ [v])))
noncomputable abbrev AddQ2 (b a : Addr) (Q : PV → PH → Prop) : PV → PH → Prop := fun v H2 => H2 b = some (.raw (boundApp a)) ∧ ∃ xs, H2 a = some (.list xs) ∧ xs.length ≤ 16777216 ∧ Q .none (H2.set a (.list (xs ++ [v])))
noncomputable abbrev AddQ (C : Cx) (e : Expr) (m : Loc) (Q : PV → PH → Prop) : PV → PH → Prop := fun fv H1 => ∃ b a, fv = .ref b ∧ Ev C e m H1 (AddQ2 b a Q)
section
variable {C : Cx} {m : Loc} {H : PH} {Q : PV → PH → Prop} {pos apos : Pos} {o func e : Expr}
theorem ev_bound (h : Ev C o m H (BndQ Q))
    (hbase : ∀ env, attributeBase o "append" env (eval o env) = eval o env := by intro _; rfl) (ht : ∀ o' r, letTemporaryGo o o' r = pure () := by intro _ _; rfl) : Ev C (.Attribute o "append" pos) m H Q := by
  intro R s Q' S hQ
  rw [arm_eval_Attribute, hbase]
  refine wpAny_bind (h R s _ S fun v H1 s1 S1 q => ?_)
  obtain ⟨a, xs, e, hH, q⟩ := q
  cases abs_ref e
  obtain ⟨ob, h1, vs, n, rfl, _⟩ := S1.get hH
  refine wpAny_bind (wpAny_standAt (wpAny_bind (wpAny_holding ?_)))
  obtain ⟨hf, S2⟩ := S1.alloc (o := boundApp a) (po := .raw (boundApp a)) rfl (s1.toks + 1)
  refine app_get h1 rfl rfl rfl rfl ?_
  refine wpAny_bind (wpAny_of_eq (ht _ _) (wpAny_pure ?_))
  exact hQ (.ref s1.heap.objs.size) _ _ S2 (q _ hf)
theorem ev_call_bound (h : Ev C func m H (AddQ C e m Q))
    (he : ∀ env, eval (.Call func [e] [] pos) env = (do callWith pos (← eval func env) [] (backTo pos (starEach [e] env)) (backToKw pos (keywordEach [] env))) := by intro _; rfl)
    (hs : [e].all noStar = true := by rfl) : Ev C (.Call func [e] [] pos) m H Q := by
  intro R s Q' S hQ
  rw [he]
  refine wpAny_bind (h _ s _ S fun fv H1 s1 S1 q => ?_)
  obtain ⟨b, a, e, q⟩ := q
  cases abs_ref e
  refine callWith_of (P := fun h => h.get? b = some (boundApp a)) (by rw [eas_plain hs]; rfl) (fun h x => ⟨.machine, .inr (.inl rfl), (Looks.ld (part := none) x).andThen .now⟩) ?_
  refine evalArgs_eas (Q := fun vs H2 => ∃ v, vs = [v] ∧ H2 b = some (.raw (boundApp a)) ∧ ∃ xs, H2 a = some (.list xs) ∧ xs.length ≤ 16777216 ∧ Q .none (H2.set a (.list (xs ++ [v])))) hs
    (eas_cons (Ev.mono q fun v H2 q2 => eas_nil ⟨v, rfl, q2⟩)) R s1 _ S1 fun x H2 s2 S2 q2 => ?_
  obtain ⟨hk, v, hv, hb, xs, ha, hl, q3⟩ := q2
  dsimp only at hk hv
  obtain ⟨ob, h1, h2⟩ := S2.get hb
  cases h2
  refine ⟨h1, ?_⟩
  obtain ⟨u, hx, rfl⟩ := args1 hv
  rw [hk, hx]
  obtain ⟨oa, g1, vs, n, rfl, rfl⟩ := S2.get ha
  refine call_app (x := u) h1 g1 (by simpa [sizeLine] using hl) fun h' hp hs => ?_
  obtain ⟨n', hp⟩ := hp
  exact hQ .none _ _ (S2.mut ha hs hp (po' := .list (vs.toList.map abs ++ [abs u])) ⟨_, _, rfl, by simp⟩ s2.toks) q3
end
end Mine
end
section
open PySem PySem.W PySem.Calls PySem.Spec PyProof.Rows
set_option Elab.async false
set_option maxRecDepth 100000
set_option linter.unusedVariables false
namespace Mine
/-- the parts of an f-string -/
noncomputable def Jo (C : Cx) (m : Loc) : List Expr → List Nat → PH → (PV → PH → Prop) → Prop
  | [], acc, H, Q => acc.length ≤ 16777216 ∧ Q (.str acc) H
  | e :: r, acc, H, Q => Ev C e m H (fun v H1 => ∃ x, v = .str x ∧ acc.length + x.length ≤ 16777216 ∧ Jo C m r (acc ++ x) H1 Q)
noncomputable abbrev JoQ (C : Cx) (m : Loc) (r : List Expr) (acc : List Nat) (Q : PV → PH → Prop) : PV → PH → Prop := fun v H1 => ∃ x, v = .str x ∧ acc.length + x.length ≤ 16777216 ∧ Jo C m r (acc ++ x) H1 Q
noncomputable abbrev FvQ (Q : PV → PH → Prop) : PV → PH → Prop := fun v H1 => ∃ x, v = .str x ∧ x.length ≤ 16777216 ∧ Q (.str x) H1
section
variable {C : Cx} {m : Loc} {H : PH} {Q : PV → PH → Prop} {pos : Pos} {value e v₁ v₂ : Expr} {r : List Expr} {acc x : List Nat}
theorem jo_nil (hl : acc.length ≤ 16777216) (h : Q (.str acc) H) : Jo C m [] acc H Q := ⟨hl, h⟩
theorem jo_cons (h : Ev C e m H (JoQ C m r acc Q)) : Jo C m (e :: r) acc H Q := h
theorem jo_run {R : List (Addr × Obj)} {Q' : Value → Shared → Prop} (hQ : ∀ v H' s', Sim C R m H' s' → Q (abs v) H' → Q' v s') : ∀ (r : List Expr) (acc : List Nat) (H : PH) (s : Shared), Jo C m r acc H Q → Sim C R m H s →
    Joins (model C.prog C.w) C.A C.E (evalEach r C.env) ⟨acc.toArray⟩ (fun out s₁ => out.length ≤ sizeLine ∧ Q' (.str out s₁.toks) { s₁ with toks := s₁.toks + 1 }) s
  | [], acc, H, s, h, S => ⟨by simpa [PySem.Str.length, sizeLine] using h.1, hQ _ _ _ (S.toks _) h.2⟩
  | e :: r, acc, H, s, h, S => (show Ev C e m H _ from h) R s _ S fun v H1 s1 S1 q => by
    obtain ⟨x, e, hl, q⟩ := q
    obtain ⟨t, rfl⟩ := abs_str e
    have e2 : ((⟨acc.toArray⟩ : PySem.Str) ++ ⟨x.toArray⟩) = ⟨(acc ++ x).toArray⟩ := PySem.Str.ext' (by rw [PySem.Str.cps_append]; simp)
    refine ⟨⟨x.toArray⟩, t, rfl, ?_, ?_⟩
    · rw [e2]; simp [PySem.Str.length, sizeLine]; omega
    · rw [e2]; exact jo_run hQ r _ H1 s1 q S1
theorem ev_joined (h : Jo C m (v₁ :: v₂ :: r) [] H Q) : Ev C (.JoinedStr (v₁ :: v₂ :: r) pos) m H Q :=
  fun R s Q' S hQ => wpAny_JoinedStr (jo_run hQ _ [] H s h S)
theorem ev_fv (h : Ev C value m H (FvQ Q)) : Ev C (.FormattedValue value (-1) none pos) m H Q :=
  fun R s Q' S hQ => wpAny_FormattedValue_plain (h R s _ S fun v H1 s1 S1 q => by
    obtain ⟨x, e, hl, q⟩ := q
    obtain ⟨t, rfl⟩ := abs_str e
    exact formatField_str (fun t' tk => hQ _ _ _ (S1.toks _) q) (by simpa [PySem.Str.length, sizeLine] using hl))
end
end Mine
end
section
open PySem PySem.W PySem.Calls PySem.Spec PyProof.Rows
set_option Elab.async false
set_option maxRecDepth 100000
set_option linter.unusedVariables false
namespace Mine
open PySem.Builtin PySem.Builtin.Re
noncomputable def codeN : Array Nat := (reCode.map Int.toNat).toArray
noncomputable def plainC (c : Nat) : Prop := c < 128 ∧ c ≠ 38 ∧ c ≠ 124 ∧ c ≠ 126
theorem bit_no : ∀ c : Nat, c < 128 → c ≠ 38 → c ≠ 124 → c ≠ 126 → (decide (c < 256) && (codeN.getD (5 + (1 + c / 32)) 0).testBit (c % 32)) = false := by decide +kernel
theorem inSet_no {c : Nat} (h : plainC c) (seen : Sre.Seen) : Sre.inSet codeN c codeN.size 5 true seen = .ok (false, (seen.add 9).add 0) := by
  have e : codeN.size = 30 + 1 + 1 := by decide +kernel
  have e1 : ∀ f, Sre.inSet codeN c (f + 1) 5 true seen = (if (decide (c < 256) && (codeN.getD (5 + (1 + c / 32)) 0).testBit (c % 32)) = true then .ok (true, seen.add 9) else Sre.inSet codeN c f (5 + 9) true (seen.add 9)) := fun f => by kernel_rfl
  have e2 : ∀ f, Sre.inSet codeN c (f + 1) (5 + 9) true (seen.add 9) = .ok (false, (seen.add 9).add 0) := fun f => by kernel_rfl
  rw [e, e1, if_neg (by rw [bit_no c h.1 h.2.1 h.2.2.1 h.2.2.2]; exact Bool.false_ne_true)]
  exact e2 30
theorem adm_no {m : Sre.M} (hc : m.code = codeN) (ht : ∀ i, i < m.lim → plainC (m.text.getD i 0)) : ∀ (fuel s : Nat) (seen : Sre.Seen), ∃ seen', Sre.M.admitted m fuel s seen = .ok (none, seen')
  | 0, s, seen => ⟨seen, rfl⟩
  | fuel + 1, s, seen => by
    rw [Sre.M.admitted]
    by_cases hs : s ≥ m.lim
    · rw [if_pos hs]; exact ⟨_, rfl⟩
    · rw [if_neg hs, hc, inSet_no (ht s (by omega))]
      exact adm_no hc ht fuel (s + 1) _
theorem attempt_no {m : Sre.M} (hc : m.code = codeN) (ht : ∀ i, i < m.lim → plainC (m.text.getD i 0)) (hf : m.frames = []) (ho : m.outcome = none) :
    (m.attemptFrom 0 true).answer = some false ∧ (m.attemptFrom 0 true).frames = [] ∧ (m.attemptFrom 0 true).outcome = none := by
  have hfs : m.hasFirstSet = true := by
    unfold Sre.M.hasFirstSet
    rw [hc]
    kernel_rfl
  unfold Sre.M.attemptFrom
  rw [if_neg (by rw [hfs]; decide)]
  obtain ⟨seen', e⟩ := adm_no hc ht (m.lim + 1 - 0) 0 m.seen
  rw [e]
  exact ⟨rfl, hf, ho⟩
theorem search_no {x : List Nat} (ht : ∀ c ∈ x, plainC c) : (Sre.forSearch codeN x.toArray 1 0 x.toArray.size false).answer = some false ∧ (Sre.forSearch codeN x.toArray 1 0 x.toArray.size false).frames = [] ∧ (Sre.forSearch codeN x.toArray 1 0 x.toArray.size false).outcome = none := by
  unfold Sre.forSearch
  dsimp only
  split
  · exact ⟨rfl, rfl, rfl⟩
  · refine attempt_no rfl (fun i hi => ?_) rfl rfl
    have hi' : i < x.length := by simpa using (show i < x.toArray.size from hi)
    show plainC (x.toArray.getD i 0)
    have : x.toArray.getD i 0 = x[i] := by simp [hi']
    rw [this]
    exact ht _ (List.getElem_mem hi')
theorem drive_no {M : Model} {A : Around} {E : Value → Shared → Prop} {s : Shared} {m : Sre.M} {Q : Option Sre.M → Shared → Prop} (ha : m.answer = some false) (hf : m.frames = []) (ho : m.outcome = none) (h : Q none s) : wpAny M A (reRunToEnd m) Q E s := by
  have hstep : m.step = { m with outcome := some .failed } := by
    unfold Sre.M.step
    rw [ho, ha, hf]
    rfl
  have hrun : m.runFor reTurnSteps = { m with outcome := some .failed } := by
    show m.runFor (3 + 1) = _
    rw [Sre.M.runFor, ho]
    show (m.step).runFor (2 + 1) = _
    rw [hstep, Sre.M.runFor]
    rfl
  unfold reRunToEnd
  rw [show (2 : Nat) ^ 64 = 18446744073709551615 + 1 from rfl, reDrive, hrun]
  refine wpAny_bind (wpAny_pure ?_)
  refine wpAny_bind ?_
  refine wpAny_forIn_l (fun _ _ s' => s' = s) (List.range Sre.names.size).length ?_ ?_ _ 0 _ _ (by simp) rfl
  · rintro k a b s' _ rfl
    split
    · exact wpAny_bind (wpAny_rule (wpAny_pure rfl))
    · exact wpAny_pure rfl
  · rintro b s' rfl
    exact wpAny_pure h
end Mine
end
section
open PySem PySem.W PySem.Calls PySem.Spec PyProof.Rows
set_option Elab.async false
set_option maxRecDepth 100000
set_option linter.unusedVariables false
namespace Mine
open PySem.Builtin PySem.Builtin.Re
theorem owner_re : Manifest.owners.lookup (String.ofList "re.Pattern".toList.reverse.reverse) = some Manifest.sig_re_Pattern := by kernel_rfl
theorem plainAttrs_re : PlainAttrs "re.Pattern" :=
  ⟨⟨"object.__getattribute__", by rw [typeLookup_type, builtinLookup_eq_fast]; kernel_rfl, by decide +kernel⟩, by rw [typeLookup_type, builtinLookup_eq_fast]; kernel_rfl⟩
theorem slot_re_sub : Slot "re.Pattern" "sub" "re.Pattern.sub" :=
  .of (owner := "re.Pattern") (n := "sub") (by rw [typeLookup_type, builtinLookup_eq_fast]; kernel_rfl) (by decide +kernel) (by decide +kernel) (by decide +kernel)
    (by first | exact .inl (by decide +kernel) | exact .inr (by decide +kernel)) (by rw [isSubtype_type]; kernel_rfl)
theorem type_re_sub : typeOf (.builtin "re.Pattern.sub") = pure (.type "method_descriptor") := by show builtinType _ = _; rw [builtinType_eq_fast]; kernel_rfl
theorem entry_re_sub : entryFor table "re.Pattern.sub" = some Builtin.«re.Pattern.sub» := entryFor_of_tree (by kernel_rfl)
theorem entry_re_loop : entryFor table "re.Pattern.sub.loop" = some Builtin.«re.Pattern.sub.loop» := entryFor_of_tree (by kernel_rfl)
theorem args_re_sub (a b c : Value) : argsOk "re.Pattern.sub" ⟨[a, b, c], []⟩ := by
  unfold argsOk; kernel_rfl
theorem lk_fn_call : typeLookup (.type "function") "__call__" = pure (some (.builtin "function.__call__")) := by rw [typeLookup_type, builtinLookup_eq_fast]; kernel_rfl
section
variable {M : Model} {prog : Program} {w : World} {A : Around} {E : Value → Shared → Prop} {s : Shared} {x : List Nat} {t : Tok}
structure ReHeap (h : Heap) : Prop where
  pat : ∃ (y : PySem.Str) (t u : Tok), h.get? 43 = some ⟨.type "re.Pattern", none, .fields #[.str y t, .int 32 u, .int 1 0, .none, .none, .ref 42, .int 0 0], #[]⟩
  code : h.get? 42 = some ⟨.type "tuple", none, .seq ((reCode.map fun i => Value.int i 0).toArray) 0, #[]⟩
theorem ReHeap.keeps {h h' : Heap} (R : ReHeap h) (hk : ∀ b o, h.get? b = some o → h'.get? b = some o) : ReHeap h' :=
  ⟨let ⟨y, t, u, e⟩ := R.pat; ⟨y, t, u, hk _ _ e⟩, hk _ _ R.code⟩
theorem codes_eq : ((((reCode.map fun i => Value.int i 0).toArray).map reRawOf).map (·.toNat)) = codeN := by kernel_rfl
theorem re_target {Q : ReTarget → Shared → Prop} (R : ReHeap s.heap) (h : Q { pattern := .ref 43, string := .str ⟨x.toArray⟩ t, code := codeN, text := x.toArray, kind := 0, groups := 1, pos := 0, lim := x.toArray.size } s) :
    wpAny M A (reWholeTarget (.ref 43) (.str ⟨x.toArray⟩ t)) Q E s := by
  obtain ⟨y, t1, u1, hp⟩ := R.pat
  unfold reWholeTarget
  refine wpAny_bind (wpAny_fieldsOf hp rfl ?_)
  refine wpAny_bind (wpAny_of_eq (a := (x.toArray, 0)) rfl ?_)
  dsimp only
  rw [if_neg (by show ¬ (((0 : Nat) == 0) && ((0 : Nat) == 1)) = true; decide), if_neg (by show ¬ (((0 : Nat) == 1) && ((0 : Nat) == 0)) = true; decide)]
  refine wpAny_bind (wpAny_of_eq (a := ()) rfl ?_)
  refine wpAny_bind (wpAny_bind (wpAny_seqItems R.code rfl (wpAny_pure ?_)))
  refine wpAny_pure ?_
  have e : (((some ((reCode.map fun i => Value.int i 0).toArray)).getD #[]).map reRawOf).map (·.toNat) = codeN := codes_eq
  rw [e]
  exact h
theorem re_loop {R' : Result → Shared → Prop} {D f : Addr} {L H : Nat} (R : ReHeap s.heap) (hD : s.heap.get? D = some { cls := .type "list", data := .seq #[] }) (hx : ∀ c ∈ x, plainC c) (hne : x ≠ []) (hl : x.length ≤ sizeLine)
    (h : ∀ h' t tk, Heap.ExtBut D s.heap h' → R' (.ok (.ret (.str ⟨x.toArray⟩ t))) { s with heap := h', toks := tk }) :
    codeAny (model prog w) A (.builtin "re.Pattern.sub.loop" ⟨[.ref 43, .str ⟨x.toArray⟩ t, .ref f, rawInt 1, rawInt 0, rawInt 0, rawInt 0, rawInt 0, .bool false, .ref D, .bool false], []⟩) R' s := by
  refine codeAny_builtin entry_re_loop ?_
  unfold «re.Pattern.sub.loop»
  dsimp only [rawInt]
  rw [Around.under_plainId (by decide +kernel : plainId "re.Pattern.sub.loop" = true) _]
  refine wpAny_bind (re_target R ?_)
  rw [if_neg (by decide)]
  refine wpAny_bind ?_
  rw [if_neg (by decide)]
  unfold reNextFound
  obtain ⟨g1, g2, g3⟩ := search_no hx
  refine drive_no g1 g2 g3 ?_
  dsimp only
  have hpos : 0 < x.length := List.length_pos_iff.mpr hne
  rw [if_pos (by simpa using hpos)]
  have hsl : ∀ b e, reSlice x.toArray 0 b e = mkStr ⟨x.toArray.extract b e⟩ := fun b e => rfl
  rw [hsl, hsl]
  have hfull : x.toArray.extract (Int.toNat 0) x.toArray.size = x.toArray := by simp
  have hnil : x.toArray.extract 0 0 = #[] := by simp
  rw [hfull, hnil]
  refine wpAny_bind (wpAny_mkStr ?_ (by simpa [PySem.Str.length] using hl))
  refine wpAny_bind (wpAny_updateSeq hD rfl ?_)
  refine wpAny_bind (wpAny_mkStr ?_ (by decide))
  have hD2 : (s.heap.update D (Obj.mapSeq fun y => y.push (.str ⟨x.toArray⟩ s.toks))).get? D = some { cls := .type "list", data := .seq #[.str ⟨x.toArray⟩ s.toks] 1 } := by
    rw [Heap.get?_update_self _ hD (by rw [Obj.mapSeq_push_plain]; rfl), Obj.mapSeq_push_plain]
    rfl
  refine wpAny_bind (wpAny_seqItems hD2 rfl ?_)
  rw [if_neg (by simp)]
  refine wpAny_bind (join_list (ys := [⟨x.toArray⟩]) ⟨_, hD2, rfl, _, rfl⟩ (.cons _ _ .nil) (by simpa [PySem.Str.length, sizeLine] using hl) fun t' k => ?_)
  rw [if_neg (by decide)]
  have hj : Txt.join ⟨#[]⟩ [⟨x.toArray⟩] = ⟨x.toArray⟩ := by
    show PySem.Builtin.Str.glued ⟨#[]⟩ [⟨x.toArray⟩] = _
    rw [StrLaws.glued_eq_join]
    rfl
  refine wpAny_pure ?_
  rw [hj]
  exact h _ t' k (Heap.SameBut.update ..).extBut
theorem sub_main {R' : Result → Shared → Prop} {f : Addr} (R : ReHeap s.heap) (hf : s.TypeIs (.ref f) "function") (hx : ∀ c ∈ x, plainC c) (hne : x ≠ []) (hl : x.length ≤ sizeLine)
    (h : ∀ h' t tk, (∀ b o, s.heap.get? b = some o → h'.get? b = some o) → R' (.ok (.ret (.str ⟨x.toArray⟩ t))) { s with heap := h', toks := tk }) :
    wpAny (model prog w) A.in1 («re.Pattern.sub» ⟨[.ref 43, .ref f, .str ⟨x.toArray⟩ t], []⟩) (fun fin s' => match fin with | .done f => R' (.ok f) s' | .again c' => c'.quiet = true ∧ codeAny (model prog w) A c' R' s') (fun e s' => R' (.error e) s') s := by
  unfold «re.Pattern.sub» reSubstitute
  dsimp only
  refine wpAny_bind (wpAny_of_eq (a := [some (.ref f), some (.str ⟨x.toArray⟩ t), none]) (by kernel_rfl) ?_)
  dsimp only
  refine wpAny_bind (wpAny_pure ?_)
  refine wpAny_bind (wpAny_specialOf hf lk_fn_call ?_)
  rw [if_pos (by rfl)]
  refine wpAny_bind (wpAny_pure ?_)
  rw [if_pos (by rfl)]
  refine wpAny_bind (wpAny_pure ?_)
  refine wpAny_bind (wpAny_holding (re_target R ?_))
  dsimp only
  rw [if_pos (by decide)]
  refine wpAny_bind ?_
  unfold reNotHeld
  refine wpAny_bind (wpAny_isInstance (T := "str") (b := false) (typeIs_str _ _ _) (by rw [isSubtype_type]; kernel_rfl) ?_)
  rw [if_neg (by decide)]
  dsimp only
  refine wpAny_pure ?_
  refine wpAny_bind (wpAny_newList ?_ (by decide))
  refine wpAny_pure ?_
  refine ⟨Code.quiet_builtin _ (by decide +kernel), ?_⟩
  have R2 : ReHeap (s.heap.push { cls := .type "list", data := .seq #[] }) := R.keeps fun _ _ e => Heap.get?_push_of_some _ e
  exact re_loop (L := 0) (H := 0) (s := { s with heap := s.heap.push { cls := .type "list", data := .seq [].toArray } }) R2 (Heap.get?_push_size _ rfl) hx hne hl fun h' t' tk he => h h' t' tk fun b o e => he b o (Nat.ne_of_lt (Heap.lt_size e)) (Heap.get?_push_of_some _ e)
end
section
variable {C : Cx} {m : Loc} {H : PH} {Q : PV → PH → Prop} {x : List Nat} {f : Addr} {o : Obj}
theorem ca_sub (O : C.Ok) (F : KF C.K) (hf : H f = some (.raw o)) (hc : o.cls = .type "function") (hx : ∀ c ∈ x, plainC c) (hne : x ≠ []) (hl : x.length ≤ 16777216) (h : Q (.str x) H) : Ca C m (.builtin "re.Pattern.sub") [.ref 43, .ref f, .str x] [] H Q := by
  refine ca3 fun f' v w u hf' hv hw hu R s Q' S hQ => ?_
  cases abs_builtin hf'
  cases abs_ref hv
  cases abs_ref hw
  obtain ⟨t, rfl⟩ := abs_str hu
  obtain ⟨mr, news, S'⟩ := id S
  have X := O.kin.keeps S'.fr.keep
  have RH : ReHeap s.heap := ⟨let ⟨y, t, u, e⟩ := F.o43; ⟨y, t, u, X _ _ e⟩, X _ _ F.o42⟩
  obtain ⟨y, t1, u1, hp⟩ := RH.pat
  obtain ⟨ob, h1, h2⟩ := S.get hf
  cases h2
  exact wpAny_call (codeAny_call_builtin slot_re_sub.plain entry_re_sub (slot_re_sub.check _ _ _ _ _ _ _ _ (show s.TypeIs (.ref 43) "re.Pattern" from ⟨_, hp, rfl⟩) (args_re_sub _ _ _)
    (sub_main (R' := wants Q' C.E) RH ⟨_, h1, hc⟩ hx hne (by simpa [sizeLine] using hl) fun h' t tk hk => hQ _ _ _ (S.keeps hk tk) h)))
end
end Mine
end
section
open PySem PySem.W PySem.Calls PySem.Spec PyProof.Rows
set_option Elab.async false
set_option maxRecDepth 100000
set_option linter.unusedVariables false
namespace Mine
/-- the table of code places of `_translate` -/
noncomputable def TabOk (H : PH) : Prop := ∃ ps, H 64 = some (.raw (tabObj ps)) ∧ TriplesOk ps.toList
/-- what stays: every object but the table -/
noncomputable def Ext (H H' : PH) : Prop := (∀ a po, a ≠ 64 → H a = some po → H' a = some po) ∧ (TabOk H → TabOk H') ∧ (H' 64 = none → H 64 = none)
theorem Ext.refl {H : PH} : Ext H H := ⟨fun _ _ _ h => h, fun h => h, fun h => h⟩
theorem Ext.gone {H H' : PH} (E : Ext H H') {a : Addr} (h : H' a = none) : H a = none := by
  by_cases e : a = 64
  · subst e; exact E.2.2 h
  · cases q : H a with
    | none => rfl
    | some po => have := E.1 a po e q; rw [h] at this; cases this
theorem Ext.trans {H H1 H2 : PH} (h1 : Ext H H1) (h2 : Ext H1 H2) : Ext H H2 := ⟨fun a po hn h => h2.1 a po hn (h1.1 a po hn h), fun h => h2.2.1 (h1.2.1 h), fun h => h1.2.2 (h2.2.2 h)⟩
theorem set_other {H : PH} {a b : Addr} {po : PO} (h : b ≠ a) : (H.set a po) b = H b := if_neg h
theorem set_self {H : PH} {a : Addr} {po : PO} : (H.set a po) a = some po := if_pos rfl
theorem set_old {H : PH} {a b : Addr} {po po' : PO} (hn : H a = none) (h : H b = some po') : (H.set a po) b = some po' := by
  rw [set_other (fun e => by rw [e, hn] at h; cases h)]; exact h
theorem tabOk_set {H : PH} {a : Addr} {po : PO} (hn : H a = none) (h : TabOk H) : TabOk (H.set a po) := let ⟨ps, h1, h2⟩ := h; ⟨ps, set_old hn h1, h2⟩
theorem Ext.set {H : PH} {a : Addr} {po : PO} (hn : H a = none) : Ext H (H.set a po) := ⟨fun b po' _ h => set_old hn h, tabOk_set hn, fun h => by
    by_cases e : (64 : Addr) = a
    · rw [e, set_self] at h; cases h
    · rw [set_other e] at h; exact h⟩
theorem Ext.mut {H H2 : PH} {a : Addr} {po : PO} (ha : H a = none) (hE : Ext H H2) : Ext H (H2.set a po) := by
  refine ⟨fun b po' hn h => ?_, fun h => ?_, fun h => ?_⟩
  · rw [set_other (fun e => by rw [e, ha] at h; cases h)]; exact hE.1 b po' hn h
  · obtain ⟨ps, h1, h2⟩ := hE.2.1 h
    obtain ⟨qs, h3, _⟩ := h
    exact ⟨ps, by rw [set_other (fun e => by rw [e, ha] at h3; cases h3)]; exact h1, h2⟩
  · by_cases e : (64 : Addr) = a
    · rw [e, set_self] at h; cases h
    · rw [set_other e] at h; exact hE.2.2 h
/-- a table, grown; the rest kept -/
theorem Sim.mutExt {C : Cx} {R : List (Addr × Obj)} {m : Loc} {H : PH} {s : Shared} (S : Sim C R m H s) {a : Addr} {po po' : PO} {o' : Obj} {h' : Heap} (hH : H a = some po) (hs : Heap.ExtBut a s.heap h') (ho : h'.get? a = some o') (hr : po'.Rep o') (t : Nat) :
    Sim C R m (H.set a po') { s with heap := h', toks := t } := by
  obtain ⟨mr, news, S⟩ := S
  obtain ⟨o, hm, _⟩ := S.view _ _ hH
  have haL := (S.nw _ hm).2.1
  refine ⟨mr, news.map fun p => if p.1 = a then (a, o') else p, ?_⟩
  obtain ⟨h, t', rfl⟩ := S.st
  refine ⟨⟨h', t, rfl⟩, ⟨S.fr.ns.extBut hs (Ne.symm haL), fun b ob e => hs b ob (fun q => ?_) (S.fr.keep b ob e), S.fr.above⟩, fun p hp => ?_, fun p hp => ?_, S.loc, fun j y k v hj hk hm' => ?_, fun y d hd => ?_, fun b po₂ hb => ?_⟩
  · rw [q, (S.nw _ hm).2.2] at e; cases e
  · obtain ⟨q, hq, rfl⟩ := List.mem_map.mp hp
    by_cases e : q.1 = a
    · rw [if_pos e]; exact ⟨ho, (S.nw _ hm).2⟩
    · rw [if_neg e]; exact ⟨hs _ _ e (S.nw _ hq).1, (S.nw _ hq).2⟩
  · obtain ⟨h1, h2⟩ := S.rest p hp
    have hne : p.1 ≠ a := fun e => by rw [e, hH] at h2; cases h2
    exact ⟨mem_other h1 hne, by show (if p.1 = a then _ else _) = _; rw [if_neg hne]; exact h2⟩
  · obtain ⟨c, oc, w, e1, e2, e3, e4⟩ := S.cel _ _ _ _ hj hk hm'
    exact ⟨c, oc, w, e1, mem_other e2 fun q => (by have := (S.celS _ _ e1).1; rw [show c = a from q, hH] at this; cases this), e3, e4⟩
  · obtain ⟨e1, e2, oc, w, e3, e4⟩ := S.celS _ _ hd
    have hne : d ≠ a := fun e => by rw [e, hH] at e1; cases e1
    exact ⟨by show (if d = a then _ else _) = _; rw [if_neg hne]; exact e1, e2, oc, w, mem_other e3 hne, e4⟩
  · have hb' : (if b = a then some po' else H b) = some po₂ := hb
    by_cases e : b = a
    · rw [if_pos e] at hb'
      cases hb'
      exact ⟨o', by rw [show b = a from e]; exact mem_one hm, hr⟩
    · rw [if_neg e] at hb'
      obtain ⟨oc, h1, h2⟩ := S.view _ _ hb'
      exact ⟨oc, mem_other h1 e, h2⟩
section
variable {C : Cx} {m : Loc} {H : PH} {Q : PV → PH → Prop} {params : Arguments} {body : Expr} {scope : Scope} {pos : Pos}
theorem ev_lambda (O : C.Ok) (F : KF C.K) (hcode : C.env.code = .ref 68) (htab : TabOk H)
    (h : ∀ fa o H1, H1 fa = some (.raw o) → o.cls = .type "function" → Ext H H1 → Q (.ref fa) H1)
    (hcl : closureFor scope C.env = pure []) (hdef : defaultsOf params C.env = ([], [])) : Ev C (.Lambda params body scope pos) m H Q := by
  intro R s Q' S hQ
  obtain ⟨ps, hH, ht⟩ := htab
  obtain ⟨mr, news, S'⟩ := id S
  obtain ⟨ob, hP, e⟩ := S.get hH
  cases e
  have X := O.kin.keeps S'.fr.keep
  have hhd : CodeHd s.heap 68 64 := by
    have h1 := F.o68
    cases ho : C.K.lookup 68 with
    | none => rw [ho] at h1; cases h1
    | some o =>
      rw [ho] at h1
      obtain ⟨vs, file, tf, flags, tg, inF, text, tt, g⟩ := codeOk_spec (by simpa using h1)
      exact ⟨o, vs, file, tf, flags, tg, inF, text, tt, X _ _ ho, g.1, g.2.1, g.2.2.1, g.2.2.2.1, g.2.2.2.2.1, g.2.2.2.2.2.1, g.2.2.2.2.2.2.1, g.2.2.2.2.2.2.2, by decide⟩
  have hg := O.top.g.keeps S'.fr.keep
  obtain ⟨bm, obm, b1, b2, b3, b4, b5, b6⟩ := O.bm
  have b3' := S'.fr.keep _ _ b3
  have hbP : bm ≠ 64 := fun q => by rw [q, hP] at b3'; cases b3'; cases b4
  have hbG : bm ≠ mainGlobals := fun q => by
    obtain ⟨o, es, ep, e, hd, _⟩ := hg
    rw [q, e] at b3'; cases b3'; rw [hd] at b6; cases b6
  have hb : s.heap.BuiltinsAt C.g.mg 64 := ⟨bm, obm, b1, b2, hbG, hbP, b3', b4, b5, b6⟩
  have hgP : mainGlobals ≠ 64 := by decide
  refine kla_eval hdef ?_
  cases hf : codeAmong pos ps.toList with
  | none =>
    refine kla_makeFunction hcl O.glob hg hcode hhd hP ht hf hgP hb fun c' ctv h' tk hx hge hlt hrec htb => ?_
    have S1 := S.mutExt hH hx htb (po' := .raw (tabObj (ps ++ #[rawInt pos.line, rawInt pos.col, .ref c']))) rfl tk
    obtain ⟨hn, S2⟩ := S1.alloc (o := kla_obj "<lambda>" (C.env.qual ++ "<lambda>") params body scope [] ((C.g.mg "__name__").getD .none) c' ctv) (po := .raw _) rfl tk
    refine hQ (.ref h'.objs.size) _ _ S2 (h _ _ _ set_self rfl (Ext.trans ⟨fun a po hne he => ?_, fun _ => ?_, fun e => ?_⟩ (Ext.set hn)))
    · rw [set_other hne]; exact he
    · exact ⟨_, set_self, by simpa using TriplesOk_snoc _ _ _ _ ht⟩
    · rw [set_self] at e; cases e
  | some cv =>
    refine kla_makeFunctionHit hcl O.glob hg hcode hhd hP ht hf hb fun ctv h' tk hk hsz => ?_
    have S1 := S.keeps hk tk
    obtain ⟨hn, S2⟩ := S1.alloc (o := { cls := .type "function", data := .func (kla_fn "<lambda>" (C.env.qual ++ "<lambda>") params body scope [] ((C.g.mg "__name__").getD .none) cv ctv) }) (po := .raw _) rfl tk
    exact hQ (.ref h'.objs.size) _ _ S2 (h _ _ _ set_self rfl (Ext.set hn))
end
end Mine
end
section
open PySem PySem.W PySem.Calls PySem.Spec PyProof.Rows
set_option Elab.async false
set_option maxRecDepth 100000
set_option linter.unusedVariables false
namespace Mine
section
variable {C : Cx} {m : Loc} {H : PH} {Q : PV → PH → Prop} {o : Expr} {name : Str} {apos pos : Pos} {args : List Expr}
/-- a method of an object of the written heap -/
theorem ev_methodK (a : Addr) (T id : String) (hTa : ∀ s R m H, Sim C R m H s → s.TypeIs (.ref a) T ∧ ∃ ob, s.heap.get? a = some ob ∧ ob.dict = none) (pa : PlainAttrs T) (slot : Slot T name id) (hty : typeOf (.builtin id) = pure (.type "method_descriptor"))
    (h : Ev C o m H (fun ov H1 => ov = .ref a ∧ Eas C m args H1 (fun vs H2 => Ca C m (.builtin id) (.ref a :: vs) [] H2 Q)))
    (hs : args.all noStar = true := by rfl) (hline : (apos.endLine == pos.line) = true := by rfl)
    (hbase : ∀ env, attributeBase o name env (eval o env) = eval o env := by intro _; rfl)
    (hn : (args.length < 30) := by decide) : Ev C (.Call (.Attribute o name apos) args [] pos) m H Q := by
  intro R s Q' S hQ
  refine wpAny_Call_method (T := T) (id := id) (hbase _) ?_ hline pa slot hty (h R s _ S fun ov H1 s1 S1 q => ?_)
  · have h1 : (backTo pos (starEach args C.env)).all (fun x => !x.1) = true := by
      have := eas_plain (pos := pos) (env := C.env) hs
      rw [List.any_eq_false] at this
      rw [List.all_eq_true]
      intro x hx
      simpa using this x hx
    rw [h1]
    simp
    refine ⟨fun _ _ hm => (nomatch hm), by simpa using hn⟩
  · obtain ⟨e, q⟩ := q
    cases abs_ref e
    obtain ⟨g1, g2⟩ := hTa s1 R m H1 S1
    exact ⟨g1, fun b hb => by cases hb; exact g2, callWith_eas (first := [.ref a]) hs kp_builtin (by simpa [abs] using q) _ s1 Q' S1 hQ⟩
/-- bytes.maketrans -/
theorem gm_mt {pl : Sem Bool} {R : List (Addr × Obj)} {s : Shared} {Q' : Value × List Value → Shared → Prop} {E : Value → Shared → Prop} (O : C.Ok) (F : KF C.K) (S : Sim C R m H s) (h : ∀ t, Q' (.builtin "bytes.maketrans", []) { s with toks := t }) :
    wpAny (model C.prog C.w) C.A (getMethod (.type "bytes") (PySem.Str.ofString "maketrans") pl) Q' E s := by
  obtain ⟨mr, news, S⟩ := S
  have X := O.kin.keeps S.fr.keep
  have hstub : opaqueClassAbove (.type "bytes") = pure none := by unfold opaqueClassAbove; dsimp only; rw [show Manifest.isStub "bytes" = false by decide +kernel]; rfl
  have ht : typeOf (.type "bytes") = pure (.type "type") := by first | rfl | kernel_rfl
  have L0 : Looks (model C.prog C.w) s.heap (typeOf (.type "bytes")) (.type "type") := Looks.of_pure ht
  have hg : findIn C.K (.type "type") "__getattribute__" = some (some (.builtin "type.__getattribute__")) := type_tga
  unfold getMethod specialOf
  refine wpAny_bind (wpAny_bind (L0.here ((looks_findIn X hg).here ?_)))
  dsimp only
  rw [if_pos canon_tga]
  refine wpAny_bind (wpAny_mono (Q := fun v => Q' (v, [])) (E := E) ?_ (fun _ _ z => wpAny_pure z) fun _ _ z => z)
  have LO : Looks (model C.prog C.w) s.heap (opaqueClassAbove (.type "bytes")) none := Looks.of_pure hstub
  refine cls_open X LO L0 hg (looks_hook X (r := none) (by rfl)) (by show subIn C.K _ _ = _; rfl) F.mkt ?_
  exact wpAny_pure (by dsimp only; rw [handedOut_of (by decide +kernel)]; exact wpAny_pure (h _))
theorem ev_maketrans {x y : Expr} (O : C.Ok) (F : KF C.K) (h : Ev C o m H (fun ov H1 => ov = .type "bytes" ∧ Eas C m [x, y] H1 (fun vs H2 => Ca C m (.builtin "bytes.maketrans") vs [] H2 Q)))
    (hs : [x, y].all noStar = true := by rfl) (hline : (apos.endLine == pos.line) = true := by rfl)
    (hbase : ∀ env, attributeBase o "maketrans" env (eval o env) = eval o env := by intro _; rfl) : Ev C (.Call (.Attribute o "maketrans" apos) [x, y] [] pos) m H Q := by
  intro R s Q' S hQ
  rw [arm_eval_Call, hbase]
  refine wpAny_bind (h R s _ S fun ov H1 s1 S1 q => ?_)
  obtain ⟨e, q⟩ := q
  cases abs_type e
  refine wpAny_bind (wpAny_standAt ?_)
  have hform : methodCallForm ([x, y].length + ([] : List Keyword).length) (backTo pos (starEach [x, y] C.env)) (backToKw pos (keywordEach [] C.env)) = true := by
    have h1 : (backTo pos (starEach [x, y] C.env)).all (fun x => !x.1) = true := by
      have := eas_plain (pos := pos) (env := C.env) hs
      rw [List.any_eq_false] at this
      rw [List.all_eq_true]
      intro x hx
      simpa using this x hx
    unfold methodCallForm
    rw [h1]
    rfl
  have hpos : methodCallPos true o C.env apos pos = pure pos := by unfold methodCallPos; simp [hline]
  unfold methodCall
  rw [hform]
  refine wpAny_bind (wpAny_holding (gm_mt O F S1 fun t => ?_))
  exact wpAny_bind (wpAny_of_eq hpos (callWith_eas (first := []) hs kp_builtin (by simpa [abs] using q) _ _ Q' (S1.toks t) hQ))
end
end Mine
end
section
open PySem PySem.W PySem.Calls PySem.Spec PyProof.Rows
set_option Elab.async false
set_option maxRecDepth 100000
set_option linter.unusedVariables false
namespace Mine
section
variable {C : Cx} {m : Loc} {H : PH} {Q : PV → PH → Prop} {x : Str} {np pos kp : Pos} {args r : List Expr} {a₀ e₁ : Expr} {name : Str}
theorem nm_K {a : Addr} (O : C.Ok) (hx : C.env.kindOf x = some .globalImplicit) (e : nsIn C.K mainGlobals x = some (some (.ref a))) (h : Q (.ref a) H) (hd : (x == ("__debug__" : Str)) = false := by decide) : Ev C (.Name x np) m H Q := ev_global O hx e h hd
theorem nm_T {n : String} (O : C.Ok) (hx : C.env.kindOf x = some .globalImplicit) (e : nsIn C.K mainGlobals x = some none) (hv : bootBuiltins x = some (.type n)) (hn : x ≠ "__name__") (h : Q (.type n) H) (hd : (x == ("__debug__" : Str)) = false := by decide) : Ev C (.Name x np) m H Q :=
  ev_builtin O hx e hv hn h hd
theorem nm_I {n : String} (O : C.Ok) (hx : C.env.kindOf x = some .globalImplicit) (e : nsIn C.K mainGlobals x = some none) (hv : bootBuiltins x = some (.builtin n)) (hn : x ≠ "__name__") (h : Q (.builtin n) H) (hd : (x == ("__debug__" : Str)) = false := by decide) : Ev C (.Name x np) m H Q :=
  ev_builtin O hx e hv hn h hd
theorem nm_len (O : C.Ok) (F : KF C.K) (hx : C.env.kindOf (Str.ofString "len") = some .globalImplicit) (h : Q (.builtin "len") H) : Ev C (.Name (Str.ofString "len") np) m H Q := nm_I O hx F.b_len (by kernel_rfl) (by decide +kernel) h
theorem nm_isinstance (O : C.Ok) (F : KF C.K) (hx : C.env.kindOf (Str.ofString "isinstance") = some .globalImplicit) (h : Q (.builtin "isinstance") H) : Ev C (.Name (Str.ofString "isinstance") np) m H Q := nm_I O hx F.b_isinstance (by kernel_rfl) (by decide +kernel) h
theorem nm_object (O : C.Ok) (F : KF C.K) (hx : C.env.kindOf (Str.ofString "object") = some .globalImplicit) (h : Q (.type "object") H) : Ev C (.Name (Str.ofString "object") np) m H Q := nm_T O hx F.b_object (by kernel_rfl) (by decide +kernel) h
theorem nm_str (O : C.Ok) (F : KF C.K) (hx : C.env.kindOf (Str.ofString "str") = some .globalImplicit) (h : Q (.type "str") H) : Ev C (.Name (Str.ofString "str") np) m H Q := nm_T O hx F.b_str (by kernel_rfl) (by decide +kernel) h
theorem nm_bytes (O : C.Ok) (F : KF C.K) (hx : C.env.kindOf (Str.ofString "bytes") = some .globalImplicit) (h : Q (.type "bytes") H) : Ev C (.Name (Str.ofString "bytes") np) m H Q := nm_T O hx F.b_bytes (by kernel_rfl) (by decide +kernel) h
theorem nm_bytearray (O : C.Ok) (F : KF C.K) (hx : C.env.kindOf (Str.ofString "bytearray") = some .globalImplicit) (h : Q (.type "bytearray") H) : Ev C (.Name (Str.ofString "bytearray") np) m H Q := nm_T O hx F.b_bytearray (by kernel_rfl) (by decide +kernel) h
theorem nm_type (O : C.Ok) (F : KF C.K) (hx : C.env.kindOf (Str.ofString "type") = some .globalImplicit) (h : Q (.type "type") H) : Ev C (.Name (Str.ofString "type") np) m H Q := nm_T O hx F.b_type (by kernel_rfl) (by decide +kernel) h
theorem nm_bool (O : C.Ok) (F : KF C.K) (hx : C.env.kindOf (Str.ofString "bool") = some .globalImplicit) (h : Q (.type "bool") H) : Ev C (.Name (Str.ofString "bool") np) m H Q := nm_T O hx F.b_bool (by kernel_rfl) (by decide +kernel) h
theorem nm_range (O : C.Ok) (F : KF C.K) (hx : C.env.kindOf (Str.ofString "range") = some .globalImplicit) (h : Q (.type "range") H) : Ev C (.Name (Str.ofString "range") np) m H Q := nm_T O hx F.b_range (by kernel_rfl) (by decide +kernel) h
theorem nm_B64 (O : C.Ok) (F : KF C.K) (hx : C.env.kindOf (Str.ofString "_B64") = some .globalImplicit) (h : Q (.bytes b64abc) H) : Ev C (.Name (Str.ofString "_B64") np) m H Q := by
  have e := F.n_B64
  cases e1 : nsIn C.K mainGlobals (Str.ofString "_B64") with
  | none => rw [e1] at e; cases e
  | some o => cases o with
    | none => rw [e1] at e; cases e
    | some v =>
      rw [e1] at e
      have e2 : abs v = .bytes b64abc := by simpa using e
      exact ev_global O hx e1 (e2 ▸ h) (by decide)
/-- a call of a def of the written heap -/
theorem ev_callF {n : Nat} {f c : Addr} {dV kV : Value} (O : C.Ok) (hx : C.env.kindOf x = some .globalImplicit) (fa : FnAt C.K n x f c dV kV) (h : Eas C m args H (CaQ C m (.ref f) Q))
    (he : ∀ env, eval (.Call (.Name x np) args [] pos) env = (do callWith pos (← eval (.Name x np) env) [] (backTo pos (starEach args env)) (backToKw pos (keywordEach [] env))) := by intro _; rfl)
    (hs : args.all noStar = true := by rfl) (hd : (x == ("__debug__" : Str)) = false := by decide) : Ev C (.Call (.Name x np) args [] pos) m H Q :=
  ev_call (nm_K O hx fa.ns ⟨kp_K O fa.keep, h⟩ hd) he hs
theorem ev_callFkw {n : Nat} {f c : Addr} {dV kV : Value} (O : C.Ok) (hx : C.env.kindOf x = some .globalImplicit) (fa : FnAt C.K n x f c dV kV) (h : Eas C m (a₀ :: r) H (CkwQ2 C m e₁ name (.ref f) Q))
    (he : ∀ env, eval (.Call (.Name x np) (a₀ :: r) [⟨some name, e₁, kp⟩] pos) env = (do callWith pos (← eval (.Name x np) env) [] (backTo pos (starEach (a₀ :: r) env)) (backToKw pos (keywordEach [⟨some name, e₁, kp⟩] env))) := by intro _; rfl)
    (hs : (a₀ :: r).all noStar = true := by rfl) (hd : (x == ("__debug__" : Str)) = false := by decide) : Ev C (.Call (.Name x np) (a₀ :: r) [⟨some name, e₁, kp⟩] pos) m H Q :=
  ev_callkw (nm_K O hx fa.ns ⟨kp_K O fa.keep, h⟩ hd) he hs
theorem nm_F {n : Nat} {f c : Addr} {dV kV : Value} (O : C.Ok) (hx : C.env.kindOf x = some .globalImplicit) (fa : FnAt C.K n x f c dV kV) (h : Q (.ref f) H) (hd : (x == ("__debug__" : Str)) = false := by decide) : Ev C (.Name x np) m H Q := nm_K O hx fa.ns h hd
theorem kp_F {n : Nat} {nm : Str} {f c : Addr} {dV kV : Value} {P : Prop} (O : C.Ok) (fa : FnAt C.K n nm f c dV kV) (h : P) : Kp C (.ref f) ∧ P := ⟨kp_K O fa.keep, h⟩
/-- a name that stands for one value -/
noncomputable def NmIs (C : Cx) (x : Str) (v : PV) : Prop := ∀ (m : Loc) (H : PH) (Q : PV → PH → Prop) (np : Pos), Q v H → Ev C (.Name x np) m H Q
theorem nm_any {v : PV} (b : NmIs C x v) (h : Q v H) : Ev C (.Name x np) m H Q := b _ _ _ _ h
theorem kp_any {v : PV} {P : Prop} (q : Kp C v) (h : P) : Kp C v ∧ P := ⟨q, h⟩
theorem is_F {n : Nat} {f c : Addr} {dV kV : Value} (O : C.Ok) (hx : C.env.kindOf x = some .globalImplicit) (fa : FnAt C.K n x f c dV kV) (hd : (x == ("__debug__" : Str)) = false) : NmIs C x (.ref f) := fun _ _ _ _ h => nm_F O hx fa h hd
theorem is_len (O : C.Ok) (F : KF C.K) (hx : C.env.kindOf (Str.ofString "len") = some .globalImplicit) : NmIs C (Str.ofString "len") (.builtin "len") := fun _ _ _ _ h => nm_len O F hx h
theorem is_isinstance (O : C.Ok) (F : KF C.K) (hx : C.env.kindOf (Str.ofString "isinstance") = some .globalImplicit) : NmIs C (Str.ofString "isinstance") (.builtin "isinstance") := fun _ _ _ _ h => nm_isinstance O F hx h
theorem is_object (O : C.Ok) (F : KF C.K) (hx : C.env.kindOf (Str.ofString "object") = some .globalImplicit) : NmIs C (Str.ofString "object") (.type "object") := fun _ _ _ _ h => nm_object O F hx h
theorem is_str (O : C.Ok) (F : KF C.K) (hx : C.env.kindOf (Str.ofString "str") = some .globalImplicit) : NmIs C (Str.ofString "str") (.type "str") := fun _ _ _ _ h => nm_str O F hx h
theorem is_bytes (O : C.Ok) (F : KF C.K) (hx : C.env.kindOf (Str.ofString "bytes") = some .globalImplicit) : NmIs C (Str.ofString "bytes") (.type "bytes") := fun _ _ _ _ h => nm_bytes O F hx h
theorem is_bytearray (O : C.Ok) (F : KF C.K) (hx : C.env.kindOf (Str.ofString "bytearray") = some .globalImplicit) : NmIs C (Str.ofString "bytearray") (.type "bytearray") := fun _ _ _ _ h => nm_bytearray O F hx h
theorem is_type (O : C.Ok) (F : KF C.K) (hx : C.env.kindOf (Str.ofString "type") = some .globalImplicit) : NmIs C (Str.ofString "type") (.type "type") := fun _ _ _ _ h => nm_type O F hx h
theorem is_bool (O : C.Ok) (F : KF C.K) (hx : C.env.kindOf (Str.ofString "bool") = some .globalImplicit) : NmIs C (Str.ofString "bool") (.type "bool") := fun _ _ _ _ h => nm_bool O F hx h
theorem is_range (O : C.Ok) (F : KF C.K) (hx : C.env.kindOf (Str.ofString "range") = some .globalImplicit) : NmIs C (Str.ofString "range") (.type "range") := fun _ _ _ _ h => nm_range O F hx h
theorem is_B64 (O : C.Ok) (F : KF C.K) (hx : C.env.kindOf (Str.ofString "_B64") = some .globalImplicit) : NmIs C (Str.ofString "_B64") (.bytes b64abc) := fun _ _ _ _ h => nm_B64 O F hx h
theorem Called.kf {C C' : Cx} {qual : Str} {sc : Scope} {f : Addr} {cdv : Value} (K : Called C C' qual sc f cdv) (F : KF C.K) : KF C'.K := by
  show KF C'.g.K
  rw [K.g]; exact F
theorem kind_is {sc : Scope} (hs : C.env.scope = sc) (h : sc.names.lookup x = some .globalImplicit) : C.env.kindOf x = some .globalImplicit := by
  unfold Env.kindOf
  rw [hs]; exact h
theorem kp_ty {n : String} {P : Prop} (h : P) : Kp C (.type n) ∧ P := ⟨kp_type, h⟩
theorem kp_bi {n : String} {P : Prop} (h : P) : Kp C (.builtin n) ∧ P := ⟨kp_builtin, h⟩
theorem ca_type_bytes {b : List UInt8} (h : Q (.type "bytes") H) : Ca C m (.type "type") [.bytes b] [] H Q := ca_type (T := "bytes") rfl (by decide) h
theorem ca_type_str {b : List Nat} (h : Q (.type "str") H) : Ca C m (.type "type") [.str b] [] H Q := ca_type (T := "str") rfl (by decide) h
theorem ite_bT {b : Bool} {A B : Prop} (e : b = true) (h : A) : if b = true then A else B := by rw [if_pos e]; exact h
theorem ite_bF {b : Bool} {A B : Prop} (e : b = false) (h : B) : if b = true then A else B := by rw [if_neg (by rw [e]; decide)]; exact h
theorem inter_of (O : C.Ok) : interactive C.env = false := by
  unfold interactive
  rw [O.kind]
  first | rfl | simp
theorem ite_eqI {i j : Int} {A B : Prop} (h1 : i = j → A) (h2 : i ≠ j → B) : if (i == j) = true then A else B := by
  by_cases e : i = j
  · rw [if_pos (by simpa using e)]; exact h1 e
  · rw [if_neg (by simpa using e)]; exact h2 e
theorem ite_neI {i j : Int} {A B : Prop} (h1 : i ≠ j → A) (h2 : i = j → B) : if (i != j) = true then A else B := by
  by_cases e : i = j
  · rw [if_neg (by simpa using e)]; exact h2 e
  · rw [if_pos (by simpa using e)]; exact h1 e
theorem ite_eqS {i j : List Nat} {A B : Prop} (h1 : i = j → A) (h2 : i ≠ j → B) : if (i == j) = true then A else B := by
  by_cases e : i = j
  · rw [if_pos (by simpa using e)]; exact h1 e
  · rw [if_neg (by simpa using e)]; exact h2 e
theorem ite_neS {i j : List Nat} {A B : Prop} (h1 : i ≠ j → A) (h2 : i = j → B) : if (i != j) = true then A else B := by
  by_cases e : i = j
  · rw [if_neg (by simpa using e)]; exact h2 e
  · rw [if_pos (by simpa using e)]; exact h1 e
theorem ite_not {b : Bool} {A B : Prop} (h : if b = true then B else A) : if (!b) = true then A else B := by cases b <;> simpa using h
end
theorem ex_int {i : Int} {P : Int → Prop} (h : P i) : ∃ j, PV.int i = PV.int j ∧ P j := ⟨i, rfl, h⟩
/-! the walking rules: a tactic put together from the names of the rules and letters for their arguments: _ a new goal, h a hole, a by assumption, c by constructor, d by decide, r by with_unfolding_all rfl, i the same behind a binder, f a new goal behind a binder -/
def macNode (k : Lean.Name) (l : List Lean.Syntax) : Lean.Syntax := .node .none k l.toArray
def macSeq (l : List Lean.Syntax) : Lean.Syntax := macNode ``Lean.Parser.Tactic.tacticSeq [macNode ``Lean.Parser.Tactic.tacticSeq1Indented [macNode `null l]]
def macBy (l : List Lean.Syntax) : Lean.Syntax := macNode ``Lean.Parser.Term.byTactic [Lean.mkAtom "by", macSeq l]
def macWord (k : Lean.Name) (s : String) : Lean.Syntax := macNode k [Lean.mkAtom s]
/-- an argument by its letter -/
def macArg (c : Char) : Lean.Syntax :=
  let h := macWord ``Lean.Parser.Term.hole "_"
  let q := macNode ``Lean.Parser.Term.syntheticHole [Lean.mkAtom "?", Lean.mkAtom "_"]
  let r := macBy [macNode ``Lean.Parser.Tactic.withUnfoldingAll [Lean.mkAtom "with_unfolding_all", macSeq [macWord ``Lean.Parser.Tactic.tacticRfl "rfl"]]]
  let f (b : Lean.Syntax) : Lean.Syntax := macNode ``Lean.Parser.Term.fun [Lean.mkAtom "fun", macNode ``Lean.Parser.Term.basicFun [macNode `null [h], macNode `null [], Lean.mkAtom "=>", b]]
  if c == '_' then q else if c == 'h' then h else if c == 'r' then r else if c == 'f' then f q else if c == 'i' then f r
  else if c == 'a' then macBy [macWord ``Lean.Parser.Tactic.assumption "assumption"] else if c == 'd' then macBy [macNode ``Lean.Parser.Tactic.decide [Lean.mkAtom "decide", macNode ``Lean.Parser.Tactic.optConfig [macNode `null []]]] else macBy [macWord ``Lean.Parser.Tactic.constructor "constructor"]
/-- "name letters": the name with its arguments -/
def macApp (s : String) : Lean.Syntax :=
  let p := s.splitOn " "
  macNode ``Lean.Parser.Term.app [Lean.mkIdent (.str .anonymous (p.headD "")), macNode `null ((p.getLastD "").toList.map macArg)]
/-- the first that fits of the tactics -/
def macFirst (l : List Lean.Syntax) : Lean.Syntax := macNode ``Lean.Parser.Tactic.first [Lean.mkAtom "first", macNode `null (l.map fun x => macNode `group [Lean.mkAtom "|", x])]
def macFit (s : String) : Lean.Syntax := macSeq [macFirst (((s.splitOn "|").map fun x => macSeq [macNode ``Lean.Parser.Tactic.refine [Lean.mkAtom "refine", macApp x]]) ++ [macSeq [macNode ``Lean.Parser.Tactic.fail [Lean.mkAtom "fail", macNode `null []]]])]
/-- "shape : rules", or rules alone -/
def macGroup (s : String) : Lean.Syntax :=
  let p := s.splitOn ":"
  let t := macFit (p.getLastD "")
  if p.length == 1 then t else macSeq [macNode ``Lean.Parser.Tactic.show [Lean.mkAtom "show", macApp (p.headD "")], Lean.mkAtom ";", t]
def macWalk (s : String) : Lean.TSyntax `tactic := ⟨macFirst ((s.splitOn "/").map macGroup)⟩
/-- the rules of the walk, by what the goal looks like: "goal: rule letters | rule letters .." -/
def macRules : String := "Ev hhhhh:ev_local aar_|ev_int _|ev_str _|ev_binop _|ev_slice _|ev_sub _|ev_unary _|ev_ifexp _|nm_any a_|ev_none _|ev_bool _|ev_bytes _|ev_cmp _|ev_list _r|ev_tuple _r|ev_cell aar_|ev_call_add _ir|ev_call _ir|ev_joined _|ev_fv _|ev_append _rri/\
  Sq hhhhhh:sq_next _|sq_ret _|sq_brk _|sq_cont _/\
  Exs hhhhh:exs_nil _|exs_cons _/\
  Ex1 hhhhh:ex_assign aa_r|ex_if _|ex_return _|ex_aug aa_|ex_pass _|ex_break _|ex_continue _|ex_expr _ar|ex_assert _/\
  Te hhhhh:te_cmp _|te_not _|te_and _|te_or _|te_chain _|te_val _i/\
  Cmp hhhhhhh:cmp_eqI _|cmp_neI _|cmp_ltI _|cmp_leI _|cmp_gtI _|cmp_geI _|cmp_eqS _|cmp_neS _|cmp_neB _|cmp_inS h_|cmp_notInS h_|cmp_is c_|cmp_isNot c_/\
  Bin hhhhhhh:bin_add _|bin_sub _|inp_add _/\
  Eas hhhhh:eas_cons _|eas_nil _/\
  Tr hhhhh:tr_bool _|tr_none _|tr_int _/\
  Ca hhhhhhh:ca_type_bytes _|ca_type_str _|ca_type_bool _|ca_isStr_str _|ca_isStr_bytes a_/\
  ite_T _|ite_F _/\
  Fin' hhhh:fin_ret _|fin_next _/\
  tand_cons _|tand_nil _|tor_cons _|tor_nil _|jo_cons _|pt_none _|pt_some _/\
  ex_int _/\
  ld_local aar_|ld_cell aar_|un_neg _|kp_ty _|kp_bi _|kp_any a_"
end Mine
end
section
open PySem PySem.W PySem.Calls PySem.Spec PyProof.Rows
set_option Elab.async false
set_option maxRecDepth 100000
set_option linter.unusedVariables false
namespace Mine
theorem bitOr_nat (a b : Nat) : Builtin.bitOr (a : Int) (b : Int) = ((a ||| b : Nat) : Int) := by
  have h1 : ∀ n : Nat, Builtin.bitNot (n : Int) = -(n : Int) - 1 := fun n => rfl
  unfold Builtin.bitOr Builtin.bitAnd
  rw [h1, h1, decide_eq_false (by omega), decide_eq_false (by omega)]
  dsimp only
  have h2 : ∀ n : Nat, (Builtin.bitNot (-(n : Int) - 1)).toNat = n := fun n => by
    show (-(-(n : Int) - 1) - 1).toNat = n
    omega
  rw [h2, h2]
  show -(-((a ||| b : Nat) : Int) - 1) - 1 = _
  omega
theorem or_shift (a b k : Nat) (h : b < 2 ^ k) : Builtin.bitOr ((a : Int) * 2 ^ k) (b : Int) = ((a * 2 ^ k + b : Nat) : Int) := by
  have e : ((a : Int) * 2 ^ k) = ((a * 2 ^ k : Nat) : Int) := by push_cast; rfl
  rw [e, bitOr_nat]
  congr 1
  rw [← Nat.shiftLeft_eq, ← Nat.shiftLeft_add_eq_or_of_lt h]
section
variable {C : Cx} {m : Loc} {H : PH} {Q : PV → PH → Prop} {i j k : Int} {e test : Expr} {body orelse : List Stmt} {pos : Pos} {QS : FL → Loc → PH → Prop}
theorem bin_or' (e : Builtin.bitOr i j = k) (h : Q (.int k) H) : Bin C m (binaryOp .BitOr) (.int i) (.int j) H Q := bin_or (e ▸ h)
theorem bin_and' (e : Builtin.bitAnd i j = k) (h : Q (.int k) H) : Bin C m (binaryOp .BitAnd) (.int i) (.int j) H Q := bin_and (e ▸ h)
theorem bin_shl' (hj : 0 ≤ j) (hj2 : j ≤ 1000000) (hi : i.natAbs < 2 ^ 64) (e : i * 2 ^ j.toNat = k) (h : Q (.int k) H) : Bin C m (binaryOp .LShift) (.int i) (.int j) H Q := bin_shl hj hj2 hi (e ▸ h)
theorem bin_shr' (hj : 0 ≤ j) (e : i.fdiv (2 ^ j.toNat) = k) (h : Q (.int k) H) : Bin C m (binaryOp .RShift) (.int i) (.int j) H Q := bin_shr hj (e ▸ h)
theorem bin_add' (e : i + j = k) (h : Q (.int k) H) : Bin C m (binaryOp .Add) (.int i) (.int j) H Q := bin_add (e ▸ h)
theorem bin_sub' (e : i - j = k) (h : Q (.int k) H) : Bin C m (binaryOp .Sub) (.int i) (.int j) H Q := bin_sub (e ▸ h)
theorem shr_nat (a k : Nat) : ((a : Int)).fdiv (2 ^ k) = ((a / 2 ^ k : Nat) : Int) := by
  have : ((2 : Int) ^ k) = ((2 ^ k : Nat) : Int) := by push_cast; rfl
  rw [this]
  rw [Int.fdiv_eq_ediv_of_nonneg _ (Int.natCast_nonneg _)]
  rfl
noncomputable abbrev GrwQ (C : Cx) (v : Expr) (m : Loc) (Q : PV → PH → Prop) : PV → PH → Prop := fun ov H1 => ∃ a, ov = .ref a ∧ (∃ xs, H1 a = some (.list xs)) ∧ Ev C v m H1 (AppQ a Q)
/-- a list grows at its end -/
theorem ev_append {o v : Expr} {apos : Pos} (h : Ev C o m H (GrwQ C v m Q))
    (hs : [v].all noStar = true := by with_unfolding_all rfl) (hline : (apos.endLine == pos.line) = true := by with_unfolding_all rfl)
    (hbase : ∀ env, attributeBase o (Str.ofString "append") env (eval o env) = eval o env := by intro _; with_unfolding_all rfl) : Ev C (.Call (.Attribute o (Str.ofString "append") apos) [v] [] pos) m H Q :=
  ev_method "list" "list.append" PySem.F.plainAttrs_list slot_list_append PySem.F.type_list_append (Ev.mono h fun ov H1 ⟨a, e, ⟨xs, hH⟩, q⟩ => ⟨e ▸ hasT_list hH, eas_cons (Ev.mono q fun x H2 ⟨ys, hy, hl, q2⟩ => eas_nil (e ▸ ca_append hy hl q2))⟩) hs hline hbase (by simp)
end
end Mine
end
section
open PySem PySem.W PySem.Calls PySem.Spec PyProof.Rows
set_option Elab.async false
set_option maxRecDepth 100000
set_option linter.unusedVariables false
namespace Mine
section
variable {C : Cx} {m : Loc} {H : PH} {Q : PV → PH → Prop} {QF : FL → Loc → PH → Prop} {st : Stmt} {rest : List Stmt} {value slice : Expr} {a : Addr} {i : Int}
noncomputable abbrev StepQ (P : Loc → PH → Prop) (f : FL) (m1 : Loc) (H1 : PH) : Prop := match f with | .next => P m1 H1 | _ => False
/-- a statement that ends, then the rest -/
theorem exs_step (P : Loc → PH → Prop) (h1 : Ex1 C st m H (StepQ P)) (h2 : ∀ m1 H1, P m1 H1 → Exs C rest m1 H1 QF) : Exs C (st :: rest) m H QF :=
  exs_cons (Ex.mono h1 fun f m1 H1 q => by
    cases f with
    | next => exact h2 _ _ q
    | _ => exact q.elim)
theorem sub_list_neg {xs : List PV} {z : PV} (hH : H a = some (.list xs)) (h0 : i < 0) (h1 : -(xs.length : Int) ≤ i) (hl : xs.length ≤ 16777216) (hx : xs[(i + xs.length).toNat]? = some z) (h : Q z H) : Sub C m value slice (.ref a) (.int i) H Q := by
  intro v w hv hw _ s Q' S hQ
  cases abs_ref hv
  obtain ⟨u, rfl⟩ := abs_int hw
  obtain ⟨vs, hL, rfl⟩ := S.list hH
  obtain ⟨ops, hs⟩ := subscripted_ops slice (.ref a) (.int i u)
  rw [List.length_map, Array.length_toList] at h1 hx hl
  rw [List.getElem?_map] at hx
  cases hy : vs.toList[(i + vs.size).toNat]? with
  | none => rw [hy] at hx; cases hx
  | some y =>
    rw [hy] at hx
    cases hx
    exact tail_any hL.typeIs slot_list_getitem.lookup (wpAny_getItem_list_neg hL h0 h1 (by omega) (by simpa using hy) (hQ _ _ _ S h)) hs
end
section
variable {C : Cx} {m : Loc} {H : PH} {Q : PV → PH → Prop} {e : Expr} {np pos : Pos}
theorem ev_call_add (h : Ev C (.Name (Str.ofString "add") np) m H (AddQ C e m Q))
    (he : ∀ env, eval (.Call (.Name (Str.ofString "add") np) [e] [] pos) env = (do callWith pos (← eval (.Name (Str.ofString "add") np) env) [] (backTo pos (starEach [e] env)) (backToKw pos (keywordEach [] env))))
    (hs : [e].all noStar = true) : Ev C (.Call (.Name (Str.ofString "add") np) [e] [] pos) m H Q := ev_call_bound h he hs
end
theorem one_of {c k : Nat} {x : Str} (e : [c] = x.cps.toList) (h : x.cps.toList = [k]) : c = k := by rw [h] at e; simpa using e
theorem not_one {c k : Nat} {x : Str} (e : [c] ≠ x.cps.toList) (h : x.cps.toList = [k]) : c ≠ k := fun q => e (by rw [h, q])
/-- the parts of a translated pattern -/
inductive Part where | star | txt (l : List Nat)
noncomputable def Part.pv (sa : Addr) : Part → PV | .star => .ref sa | .txt l => .str l
noncomputable def Part.isStar : Part → Bool | .star => true | _ => false
/-- behind a '[': how far the set goes -/
noncomputable def setFrom (r : List Nat) : Nat :=
  let k0 := if r[0]? = some 33 then 1 else 0
  if r[k0]? = some 93 then k0 + 1 else k0
noncomputable def bracket (r : List Nat) : Option Nat := ((r.drop (setFrom r)).findIdx? (· == 93)).map (setFrom r + ·)
noncomputable def setText (stuff : List Nat) : List Nat := 91 :: (if stuff[0]? = some 91 then 92 :: stuff else stuff) ++ [93]
noncomputable def trStep (pat : List Nat) (i : Nat) (res : List Part) : Nat × List Part :=
  let c := pat.getD i 0
  if c = 42 then (i + 1, if (res.getLast?.map Part.isStar) = some true then res else res ++ [.star])
  else if c = 63 then (i + 1, res ++ [.txt [46]])
  else if c = 91 then match bracket (pat.drop (i + 1)) with
    | none => (i + 1, res ++ [.txt [92, 91]])
    | some L => (i + 1 + L + 1, res ++ [.txt (setText ((pat.drop (i + 1)).take L))])
  else (i + 1, res ++ [.txt (escOf c)])
noncomputable def trRun (pat : List Nat) : Nat → Nat → List Part → List Part
  | 0, _, res => res
  | f + 1, i, res => if i < pat.length then trRun pat f (trStep pat i res).1 (trStep pat i res).2 else res
noncomputable def trAll (pat : List Nat) : List Part := trRun pat pat.length 0 []
/-- sets that the walk can follow -/
noncomputable def GoodPat (pat : List Nat) : Prop := (∀ c ∈ pat, c < 128) ∧ ∀ i L, pat[i]? = some 91 → bracket (pat.drop (i + 1)) = some L →
  let stuff := (pat.drop (i + 1)).take L
  (∀ c ∈ stuff, plainC c) ∧ 45 ∉ stuff ∧ 92 ∉ stuff ∧ stuff ≠ [] ∧ stuff[0]? ≠ some 33 ∧ stuff[0]? ≠ some 94
theorem bracket_lt {r : List Nat} {L : Nat} (h : bracket r = some L) : L < r.length ∧ r[L]? = some 93 ∧ setFrom r ≤ L ∧ ∀ t, setFrom r ≤ t → t < L → r[t]? ≠ some 93 := by
  unfold bracket at h
  cases h1 : (r.drop (setFrom r)).findIdx? (· == 93) with
  | none => rw [h1] at h; cases h
  | some d =>
    rw [h1] at h
    have e : setFrom r + d = L := by simpa using h
    rw [List.findIdx?_eq_some_iff_getElem] at h1
    obtain ⟨hd, h2, h3⟩ := h1
    rw [List.length_drop] at hd
    rw [List.getElem_drop] at h2
    refine ⟨by omega, ?_, by omega, fun t ht htl q => ?_⟩
    · rw [← e, List.getElem?_eq_getElem (by omega)]
      simpa using h2
    · have := h3 (t - setFrom r) (by omega)
      rw [List.getElem_drop] at this
      have e2 : setFrom r + (t - setFrom r) = t := by omega
      simp only [e2] at this
      rw [List.getElem?_eq_getElem (by omega)] at q
      simp only [Option.some.injEq] at q
      rw [q] at this
      exact this rfl
theorem bracket_none {r : List Nat} (h : bracket r = none) : ∀ t, setFrom r ≤ t → r[t]? ≠ some 93 := by
  unfold bracket at h
  have h1 : (r.drop (setFrom r)).findIdx? (· == 93) = none := by simpa using h
  rw [List.findIdx?_eq_none_iff] at h1
  intro t ht q
  have : 93 ∈ r.drop (setFrom r) := by
    refine List.mem_of_getElem? (i := t - setFrom r) ?_
    rw [List.getElem?_drop]
    have : setFrom r + (t - setFrom r) = t := by omega
    rw [this]; exact q
  have := h1 93 this
  simp at this
theorem bracket_of {r : List Nat} {L : Nat} (h1 : r[L]? = some 93) (h2 : setFrom r ≤ L) (h3 : ∀ t, setFrom r ≤ t → t < L → r[t]? ≠ some 93) : bracket r = some L := by
  cases h : bracket r with
  | none => exact absurd h1 (bracket_none h L h2)
  | some M =>
    obtain ⟨g1, g2, g3, g4⟩ := bracket_lt h
    rcases Nat.lt_trichotomy L M with hlt | rfl | hlt
    · exact absurd h1 (g4 L h2 hlt)
    · rfl
    · exact absurd g2 (h3 M g3 hlt)
theorem bracket_no {r : List Nat} (h : ∀ t, setFrom r ≤ t → r[t]? ≠ some 93) : bracket r = none := by
  cases h1 : bracket r with
  | none => rfl
  | some M =>
    obtain ⟨g1, g2, g3, g4⟩ := bracket_lt h1
    exact absurd g2 (h M g3)
end Mine
end
section
open PySem PySem.W PySem.Calls PySem.Spec PyProof.Rows
set_option Elab.async false
set_option maxRecDepth 100000
set_option linter.unusedVariables false
namespace Mine
theorem slc_win {x : List Nat} (a k : Nat) : slc x (some (a : Int)) (some ((a + k : Nat) : Int)) = (x.drop a).take k := by
  unfold slc
  simp only [Option.elim, clipAt_nat]
  rcases Nat.le_total a x.length with h | h
  · rw [Nat.min_eq_left h]
    rcases Nat.le_total (a + k) x.length with h2 | h2
    · rw [Nat.min_eq_left h2]
      congr 1
      omega
    · rw [Nat.min_eq_right h2, List.take_of_length_le (by simp), List.take_of_length_le (by simp; omega)]
  · rw [Nat.min_eq_right h, List.drop_of_length_le (Nat.le_refl _), List.drop_of_length_le h]
    simp
theorem tw_mem {p : Nat → Bool} {x : Nat} : ∀ {l : List Nat}, x ∈ l.takeWhile p → p x = true
  | [], h => nomatch h
  | c :: r, h => by
    rw [List.takeWhile_cons] at h
    split at h
    · rename_i hc
      rcases List.mem_cons.mp h with rfl | h
      · exact hc
      · exact tw_mem h
    · cases h
theorem dw_head {p : Nat → Bool} {c : Nat} {r : List Nat} : ∀ {l : List Nat}, l.dropWhile p = c :: r → p c = false
  | [], h => by cases h
  | d :: l, h => by
    rw [List.dropWhile_cons] at h
    split at h
    · exact dw_head h
    · rename_i hc
      cases h
      simpa using hc
/-- one set, read -/
noncomputable def setHead (u : List Nat) : List Nat × Nat := if u.take 2 = [92, 91] then ([91], 2) else if u.take 1 = [93] then ([93], 1) else ([], 0)
theorem setHead_len (u : List Nat) : (setHead u).1.length ≤ 1 := by
  unfold setHead
  split
  · simp
  · split <;> simp
noncomputable def setRun (u : List Nat) : List Nat := (u.drop (setHead u).2).takeWhile fun c => !([93, 92].contains c)
noncomputable def setRead (u : List Nat) : Option (List Nat × Nat) :=
  if u.take 2 ≠ [92, 91] ∧ u.take 1 ≠ [93] ∧ u.take 1 = [91] then none
  else if (u.drop ((setHead u).2 + (setRun u).length)).take 1 ≠ [93] ∨ (setHead u).1 ++ setRun u = [] then none
  else some ([91] ++ ((setHead u).1 ++ setRun u) ++ [93], (setHead u).2 + (setRun u).length + 1)
theorem setRead_len {u piece : List Nat} {k : Nat} (h : setRead (u.drop 1) = some (piece, k)) (hu : 0 < u.length) : k + 1 ≤ u.length := by
  unfold setRead at h
  split at h
  · cases h
  · split at h
    · cases h
    · rename_i hc
      cases h
      have h1 : ((u.drop 1).drop ((setHead (u.drop 1)).2 + (setRun (u.drop 1)).length)).take 1 = [93] := Decidable.byContradiction fun q => hc (.inl q)
      have h2 := congrArg List.length h1
      simp only [List.length_take, List.length_drop, List.length_cons, List.length_nil] at h2
      omega
end Mine
end
section
open PySem PySem.W PySem.Calls PySem.Spec PyProof.Rows
set_option Elab.async false
set_option maxRecDepth 100000
set_option linter.unusedVariables false
namespace Mine
theorem slc_from {x : List Nat} (a : Nat) : slc x (some (a : Int)) none = x.drop a := by
  unfold slc
  simp only [Option.elim, clipAt_nat]
  rcases Nat.le_total a x.length with h | h
  · rw [Nat.min_eq_left h, List.take_of_length_le (by simp)]
  · rw [Nat.min_eq_right h, List.drop_of_length_le (Nat.le_refl _), List.drop_of_length_le h]; simp
theorem slc_to {x : List Nat} (b : Nat) : slc x none (some (b : Int)) = x.take b := by
  unfold slc
  simp only [Option.elim, clipAt_nat, List.drop_zero, Nat.sub_zero]
  rcases Nat.le_total b x.length with h | h
  · rw [Nat.min_eq_left h]
  · rw [Nat.min_eq_right h, List.take_of_length_le (Nat.le_refl _), List.take_of_length_le h]
theorem slc_last {x : List Nat} (k : Nat) (hk : 1 ≤ k) : slc x (some (-(k : Int))) none = x.drop (x.length - k) := by
  unfold slc
  simp only [Option.elim, clipAt_neg _ _ hk]
  rw [List.take_of_length_le (by simp)]
theorem slc_mid {x : List Nat} (a k : Nat) (hk : 1 ≤ k) (ha : a ≤ x.length) : slc x (some (a : Int)) (some (-(k : Int))) = (x.drop a).take (x.length - k - a) := by
  unfold slc
  simp only [Option.elim, clipAt_neg _ _ hk, clipAt_nat]
  rw [Nat.min_eq_left ha]
noncomputable abbrev CutQ (b0 : Bool) (H : PH) : Bool → PH → Prop := fun b H1 => b = b0 ∧ H = H1
theorem ex_if_cut {C : Cx} {m : Loc} {H : PH} {Q : FL → Loc → PH → Prop} {test : Expr} {body orelse : List Stmt} {pos : Pos} (b0 : Bool) (h1 : Te C test m H (CutQ b0 H))
    (h2 : if b0 = true then Exs C body m H Q else Exs C orelse m H Q) : Ex1 C (.If test body orelse pos) m H Q :=
  ex_if fun R s Q' S hQ => h1 R s Q' S fun v H' s' S' q => hQ v H' s' S' (by
    obtain ⟨e, e2⟩ := q
    have e' : v = b0 := e
    subst e2
    show if v = true then _ else _
    rw [e']
    exact h2)
inductive RSt where | front | group | last | behind
deriving DecidableEq
noncomputable def RSt.t : RSt → List Nat
  | .front => [102, 114, 111, 110, 116]
  | .group => [103, 114, 111, 117, 112]
  | .last => [108, 97, 115, 116]
  | .behind => [98, 101, 104, 105, 110, 100]
theorem RSt.inj {a b : RSt} (h : a.t = b.t) : a = b := by cases a <;> cases b <;> first | rfl | (exfalso; revert h; decide)
noncomputable def specialL : List Nat := [40, 41, 91, 93, 123, 125, 63, 42, 43, 45, 124, 94, 36, 92, 46, 38, 126, 35, 32, 9, 10, 13, 11, 12]
noncomputable def RSt.free (st : RSt) : Bool := st == .front || st == .behind
noncomputable def rdStep (u : List Nat) (st : RSt) : Option (List Nat × Nat × RSt) :=
  if st.free = true ∧ u.take 6 = [40, 63, 62, 46, 42, 63] then some ([42], 6, .group)
  else if st.free = true ∧ u.take 2 = [46, 42] then some ([42], 2, .last)
  else if st = .group ∧ u.getD 0 0 = 41 then some ([], 1, .behind)
  else if st = .behind then none
  else if u.getD 0 0 = 92 then
    match u[1]? with
    | none => none
    | some a => if a ∉ specialL ∨ a ∈ [42, 63] ∨ (a = 91 ∧ 93 ∈ (if (u.drop 2).take 2 = [92, 93] then (u.drop 2).drop 2 else u.drop 2)) then none else some ([a], 2, st)
  else if u.getD 0 0 = 91 then (setRead (u.drop 1)).map fun p => (p.1, 1 + p.2, st)
  else if u.getD 0 0 = 46 then some ([63], 1, st)
  else if u.getD 0 0 ∈ specialL then none
  else some ([u.getD 0 0], 1, st)
noncomputable def rdRun : Nat → List Nat → RSt → Option (List Nat × RSt)
  | _, [], st => some ([], st)
  | 0, _ :: _, _ => none
  | f + 1, c :: r, st => match rdStep (c :: r) st with
    | none => none
    | some (s, k, st') => (rdRun f ((c :: r).drop k) st').map fun q => (s ++ q.1, q.2)
end Mine
end
section
open PySem PySem.W PySem.Calls PySem.Spec PyProof.Rows
set_option Elab.async false
set_option maxRecDepth 100000
set_option linter.unusedVariables false
namespace Mine
noncomputable abbrev Cx.withE (C : Cx) (E' : Value → Shared → Prop) : Cx := { C with E := E' }
theorem Cx.Ok.withE {C : Cx} (O : C.Ok) {E' : Value → Shared → Prop} (hp : PassesOwn (model C.prog C.w) C.A C.env E') : (C.withE E').Ok :=
  ⟨O.kind, O.glob, O.blt, O.frame, O.hand, O.kin, O.top, hp, O.inj, O.names, O.hA, O.below, O.bm⟩
theorem Sim.withE {C : Cx} {E' : Value → Shared → Prop} {R : List (Addr × Obj)} {m : Loc} {H : PH} {s : Shared} (S : Sim C R m H s) : Sim (C.withE E') R m H s :=
  let ⟨mr, news, S⟩ := S; ⟨mr, news, ⟨S.st, S.fr, S.nw, S.rest, S.loc, S.cel, S.celS, S.view⟩⟩
theorem Sim.ofE {C : Cx} {E' : Value → Shared → Prop} {R : List (Addr × Obj)} {m : Loc} {H : PH} {s : Shared} (S : Sim (C.withE E') R m H s) : Sim C R m H s :=
  let ⟨mr, news, S⟩ := S; ⟨mr, news, ⟨S.st, S.fr, S.nw, S.rest, S.loc, S.cel, S.celS, S.view⟩⟩
/-- a try whose body does not raise -/
theorem ex_try_quiet {C : Cx} (O : C.Ok) {m : Loc} {H : PH} {Q : FL → Loc → PH → Prop} {body orelse : List Stmt} {h₀ : ExceptHandler} {hs : List ExceptHandler} {pos : Pos}
    (h : ∀ E', (C.withE E').Ok → Exs (C.withE E') body m H (fun f m1 H1 => match f with | .next => Exs C orelse m1 H1 Q | f => Q f m1 H1)) : Ex1 C (.Try body (h₀ :: hs) orelse [] pos) m H Q := by
  intro R s Q' S hQ
  refine wpAny_Try_except ?_
  refine h _ (O.withE PassesOwn.looking) R s _ S.withE fun f m1 H1 s1 S1 q => ?_
  cases f with
  | next => exact q R s1 Q' S1.ofE hQ
  | brk => exact hQ _ _ _ _ S1.ofE q
  | cont => exact hQ _ _ _ _ S1.ofE q
  | ret v => exact hQ _ _ _ _ S1.ofE q
end Mine
end
section
open PySem PySem.W PySem.Calls PySem.Spec PyProof.Rows
set_option Elab.async false
set_option maxRecDepth 100000
set_option linter.unusedVariables false
namespace Mine
noncomputable abbrev bmV : List Value := [.type "ValueError", .type "Exception", .type "BaseException", .type "object"]
noncomputable def clsB (K : Frag) (C : Addr) (d : Data) : Bool := match d with
  | .cls cd => cd.mro == (.ref C :: bmV) && (!cd.hasDel && (nsOkIn K cd.ns && nsIn K cd.ns "__str__" == some none))
  | _ => false
noncomputable def sltB (l : List (Option Value)) : Bool := l.length == 6 && l[4]? == some (some (.builtin "ValueError.__new__"))
noncomputable def errIn (K : Frag) (C : Addr) : Bool := match K.lookup C with
  | some o => o.cls == .type "type" && (clsB K C o.data && sltB o.slots.toList)
  | none => false
theorem clsB_of {K : Frag} {C : Addr} {d : Data} (h : clsB K C d = true) : ∃ cd, d = .cls cd ∧ (cd.mro == (.ref C :: bmV) && (!cd.hasDel && (nsOkIn K cd.ns && nsIn K cd.ns "__str__" == some none))) = true := by
  cases d <;> first | exact ⟨_, rfl, h⟩ | exact absurd h Bool.false_ne_true
theorem sltB_of {l : List (Option Value)} (h : sltB l = true) : ∃ k0 k1 k2 k3 k5, l = [k0, k1, k2, k3, some (.builtin "ValueError.__new__"), k5] := by
  obtain ⟨h1, h2⟩ := and_of h
  have hl := eq_of_beq h1
  have h2 := eq_of_beq h2
  obtain ⟨k0, l, rfl⟩ := List.exists_cons_of_length_eq_add_one hl
  obtain ⟨k1, l, rfl⟩ := List.exists_cons_of_length_eq_add_one (Nat.succ.inj hl)
  obtain ⟨k2, l, rfl⟩ := List.exists_cons_of_length_eq_add_one (Nat.succ.inj (Nat.succ.inj hl))
  obtain ⟨k3, l, rfl⟩ := List.exists_cons_of_length_eq_add_one (Nat.succ.inj (Nat.succ.inj (Nat.succ.inj hl)))
  obtain ⟨k4, l, rfl⟩ := List.exists_cons_of_length_eq_add_one (Nat.succ.inj (Nat.succ.inj (Nat.succ.inj (Nat.succ.inj hl))))
  obtain ⟨k5, l, rfl⟩ := List.exists_cons_of_length_eq_add_one (Nat.succ.inj (Nat.succ.inj (Nat.succ.inj (Nat.succ.inj (Nat.succ.inj hl)))))
  have h3 : l = [] := List.length_eq_zero_iff.mp (Nat.succ.inj (Nat.succ.inj (Nat.succ.inj (Nat.succ.inj (Nat.succ.inj (Nat.succ.inj hl))))))
  subst h3
  cases h2
  exact ⟨k0, k1, k2, k3, k5, rfl⟩
structure KX (K : Frag) : Prop where
  exc : excIn K 94 bmV "ValueError.__new__" = true
  kts : ktsIn K 94 "ValueError" = true
  err : errIn K 94 = true
theorem err_cls {K : Frag} {h : Heap} {C : Addr} (X : K.In h) (q : errIn K C = true) : ∃ nm qn N bs hdct sn sub ab col dd k0 k1 k2 k3 k5 mN,
    h.get? C = some (excClassObj nm qn C N bs bmV hdct sn sub ab col dd k0 k1 k2 k3 k5 "ValueError.__new__") ∧ h.Ns N mN ∧ mN "__str__" = none := by
  unfold errIn at q
  cases ho : K.lookup C with
  | none => rw [ho] at q; cases q
  | some o =>
    rw [ho] at q
    obtain ⟨h1, q⟩ := and_of q
    obtain ⟨h2, h3⟩ := and_of q
    obtain ⟨cd, hd, h2⟩ := clsB_of h2
    obtain ⟨k0, k1, k2, k3, k5, hs⟩ := sltB_of h3
    obtain ⟨h4, h2⟩ := and_of h2
    obtain ⟨h5, h2⟩ := and_of h2
    obtain ⟨hok, hst⟩ := and_of h2
    have e : o = excClassObj cd.name cd.qualname C cd.ns cd.bases bmV cd.hasDict cd.slotNames cd.subclasses cd.abstract cd.collection o.dict k0 k1 k2 k3 k5 "ValueError.__new__" := by
      have e1 := eq_of_beq h1
      have e2 := eq_of_beq h4
      have e3 : cd.hasDel = false := (Bool.not_eq_true' _).mp h5
      have e4 : o.slots = #[k0, k1, k2, k3, some (.builtin "ValueError.__new__"), k5] := Array.toList_inj.mp hs
      clear ho h1 h2 h3 h4 h5 hok hst q hs X
      cases o with
      | mk cls dd data sl =>
        cases cd with
        | mk nm bs mro ns qn hd' sn sub ab col del =>
          dsimp only at e1 e2 e3 e4 hd
          subst e1 e2 e3 e4 hd
          rfl
    exact ⟨_, _, _, _, _, _, _, _, _, _, _, _, _, _, _, _, e ▸ X _ _ ho, .of_isNs (isNs_of_in X hok), nsMap_none_of_in X hok (eq_of_beq hst)⟩
/-- the exception's object: its class 94, its arguments one text -/
structure ErrAt (h : Heap) (e t : Addr) (v : Value) : Prop where
  obj : ∃ o vs, h.get? e = some o ∧ o.cls = .ref 94 ∧ o.data = .fields vs ∧ vs[0]? = some (.ref t)
  tup : h.TupAt t [v]
  cls : ∃ nm qn N bs hdct sn sub ab col dd k0 k1 k2 k3 k5 mN, h.get? 94 = some (excClassObj nm qn 94 N bs bmV hdct sn sub ab col dd k0 k1 k2 k3 k5 "ValueError.__new__") ∧ h.Ns N mN ∧ mN "__str__" = none
section
variable {prog : Program} {w : World} {A : Around} {E : Value → Shared → Prop} {s : Shared} {e t0 : Addr} {m : Str} {tk : Tok}
open Builtin Builtin.Str Builtin.BaseException
theorem err_args {M : Model} {Q : Value × List Value → Shared → Prop} (x : ErrAt s.heap e t0 (.str m tk)) (hq : Q (.ref t0, [.str m tk]) s) : wpAny M A (bexcArgs (.ref e)) Q E s := by
  obtain ⟨o, vs, ho, _, hd, h0⟩ := x.obj
  obtain ⟨ot, k, hto, _, htd⟩ := x.tup
  unfold bexcArgs
  refine wpAny_bind (wpAny_field ho hd h0 (wpAny_bind (wpAny_seqItems hto htd ?_)))
  exact wpAny_pure hq
theorem err_entry {Q : Fin → Shared → Prop} (x : ErrAt s.heap e t0 (.str m tk)) (hq : Q (.done (.ret (.str m tk))) s) :
    wpAny (model prog w) A (Builtin.«BaseException.__str__» ⟨[.ref e], []⟩) Q E s := by
  unfold Builtin.«BaseException.__str__»
  repeat (first | with_reducible refine err_args x ?_ | wp_step)
  exact hq
theorem err_check {M : Model} {Q : Unit → Shared → Prop} (x : ErrAt s.heap e t0 (.str m tk)) (hq : Q () s) : wpAny M A (checkBuiltinCall "BaseException.__str__" ⟨[.ref e], []⟩) Q E s := by
  obtain ⟨o, vs, he, hcls, _, _⟩ := x.obj
  obtain ⟨nm, qn, N, bs, hdct, sn, sub, ab, col, dd, k0, k1, k2, k3, k5, mN, hC, _, _⟩ := x.cls
  obtain ⟨h, g, d, t, os⟩ := s
  have hcB : (Value.ref 94 :: bmV).contains (.type "BaseException") = true := by decide +kernel
  have k1 : builtinKind "BaseException.__str__" = some .slot := by kernel_rfl
  have k2 : splitId "BaseException.__str__" = some ("BaseException", "__str__") := by kernel_rfl
  simp only [checkBuiltinCall, k1, k2]
  have step : wpAny M A (isInstance (Value.ref e) (Value.type "BaseException")) (fun b s' => b = true ∧ s' = ⟨h, g, d, t, os⟩) E ⟨h, g, d, t, os⟩ := by
    unfold isInstance
    repeat (first | (with_reducible refine wpAny_loadPart_at he ?_; rw [hcls]) | (with_reducible refine wpAny_isSubtype_exc hC ?_; rw [hcB]) | wp_step)
    exact ⟨rfl, rfl⟩
  refine wpAny_bind (wpAny_mono step (fun b s' hb => ?_) fun _ _ y => y)
  obtain ⟨rfl, rfl⟩ := hb
  simp only [Bool.not_true, Bool.false_eq_true, if_false]
  have ha := F.args_bexc_str (.ref e)
  cases hsig : Manifest.signature? "BaseException.__str__" with
  | none => exact wpAny_pure hq
  | some sig =>
    simp only [argsOk, hsig] at ha
    have h2 : Bind.checkArgs "BaseException.__str__" sig ⟨[.ref e], []⟩ = pure () := ha
    show wpAny M A (Bind.checkArgs "BaseException.__str__" sig ⟨[.ref e], []⟩) Q E _
    rw [h2]
    exact wpAny_pure hq
theorem err_call {Q : Value → Shared → Prop} (x : ErrAt s.heap e t0 (.str m tk)) (hq : Q (.str m tk) s) : wpAny (model prog w) A (call (.builtin "BaseException.__str__") [.ref e]) Q E s :=
  wpAny_call (codeAny_call_builtin F.excStr_ValueError.str.plain F.entry_bexc_str (err_check x (err_entry x hq)))
theorem err_special {Q : Option Value → Shared → Prop} (x : ErrAt s.heap e t0 (.str m tk)) (hq : Q (some (.str m tk)) s) : wpAny (model prog w) A (callSpecial? (.ref e) "__str__") Q E s := by
  have x' := x
  obtain ⟨o, vs, he, hcls, _, _⟩ := x'.obj
  obtain ⟨nm, qn, N, bs, hdct, sn, sub, ab, col, dd, k0, k1, k2, k3, k5, mN, hC, hN, hst⟩ := x'.cls
  have fin : wpAny (model prog w) A (call (.builtin "BaseException.__str__") [.ref e]) (fun v => Q (some v)) E s := err_call x hq
  obtain ⟨h, g, d, t, os⟩ := s
  simp only [callSpecial?]
  refine wpAny_bind ?_
  unfold specialOf
  repeat (first | (with_reducible refine wpAny_loadPart_at he ?_; rw [hcls]) | (with_reducible refine wpAny_typeLookup_exc hC hN F.excBase_ValueError.mroIs F.excStr_ValueError.str.lookup ?_; rw [hst]) | wp_step)
  simp only [F.excStr_ValueError.str.bind]
  exact wpAny_pure (wpAny_bind (wpAny_mono fin (fun v s' h' => wpAny_pure h') fun _ _ h' => h'))
theorem err_strOf (hu : A.units < cLine) {Q : Value → Shared → Prop} (x : ErrAt s.heap e t0 (.str m tk)) (hq : Q (.str m tk) s) : wpAny (model prog w) A (Str.strOf (.ref e)) Q E s := by
  unfold Str.strOf
  repeat (first | with_reducible refine wpAny_cRoomFor hu ?_ | with_reducible refine err_special x ?_ | wp_step)
  exact hq
theorem str_of_err (hu : A.units + 2 < cLine) {Q : Value → Shared → Prop} (x : ErrAt s.heap e t0 (.str m tk)) (h : Q (.str m tk) s) : wpAny (model prog w) A (call (.type "str") [.ref e]) Q E s :=
  callType_new F.called_str (by decide) (F.typeCall_str_1 _) (F.newCall_str_1 _) (fun obj => F.args_object_init_2 obj _) F.entry_str_new
    (meets_str_new (S := fun A' R s' => A'.units + 1 < cLine ∧ ErrAt s'.heap e t0 (.str m tk) ∧ R (.ok (.ret (.str m tk))) s')
      fun _ _ A' _ _ hq => err_strOf (A := A'.in1) hq.1 hq.2.1 hq.2.2)
    ⟨(show A.units + 1 + 1 < cLine from hu), x, typeIs_str _ _ _, h⟩
end
end Mine
end
section
open PySem PySem.W PySem.Calls PySem.Spec PyProof.Rows
set_option Elab.async false
set_option maxRecDepth 100000
set_option linter.unusedVariables false
set_option linter.unusedSectionVars false
namespace Mine
local macro_rules | `(tactic| walk_at "v1") => do
  let t := macWalk macRules
  `(tactic| with_reducible $t:tactic)
local macro_rules | `(tactic| walk_at "v2") => do
  let t := macWalk "ite_dec ff|ite_eqI ff|ite_neI ff|ite_eqS ff|ite_neS ff|ite_not _|ite_bF d_|ite_bT d_"
  `(tactic| first | walk_at "v1" | with_reducible $t:tactic)
local macro_rules | `(tactic| walk_at "vx") => `(tactic| ((fail_if_success (with_reducible show Exs _ (_ :: _) _ _ _)); walk_at "v1"))
noncomputable def b64v (c : Int) : Int := if 65 ≤ c ∧ c ≤ 90 then c - 65 else if 97 ≤ c ∧ c ≤ 122 then c - 71 else if 48 ≤ c ∧ c ≤ 57 then c + 4 else if c = 43 then 62 else if c = 47 then 63 else 64
theorem spec_b64v {C : Cx} {m : Loc} {H : PH} {Q : PV → PH → Prop} (O : C.Ok) (F : KF C.K) (hr : C.A.depth < recursionLimit) {c : Int} (h : Q (.int (b64v c)) H) : Ca C m (.ref 125) [.int c] [] H Q := by
  refine call_fn O hr [(Str.ofString "c", .int c)] F.f20.at_ F.f20.code ?_ (loc_of (by kernel_rfl)) (by decide +kernel) (by decide +kernel) (by decide +kernel) (by kernel_rfl) (by kernel_rfl) (by kernel_rfl) ?_
  · intro s vs ks _ hv hk
    obtain ⟨v, rfl, hv'⟩ := args1 hv
    cases kws0 hk
    exact ⟨[(Str.ofString "c", v)], BindsTo.of_eq (by kernel_rfl), by simp [hv']⟩
  · intro C' K
    have n0 : C'.env.scope.names[0]? = some (Str.ofString "c", NameKind.local) := by rw [K.scope]; rfl
    have w0 : Slot' C' (Str.ofString "c") 0 := .inl n0
    have O' := K.ok
    have F' := K.kf F
    have hin := inter_of O'
    rw [show initLoc (scopeN 20).names [(Str.ofString "c", PV.int c)].reverse = [some (.int c)] by kernel_rfl]
    refine exs_letm ?_
    intro M0
    refine exs_cons ?_
    unfold b64v at h
    repeat' walk_at "v2"
    all_goals (repeat' (split at h)) <;> first | exact h | omega
theorem spec_ascii {C : Cx} {m : Loc} {H : PH} {Q : PV → PH → Prop} (O : C.Ok) (F : KF C.K) (hr : C.A.depth < recursionLimit) {b : List UInt8} (h : Q (.bytes b) H) : Ca C m (.ref 104) [.bytes b] [] H Q := by
  refine call_fn O hr [(Str.ofString "data", .bytes b)] F.f16.at_ F.f16.code ?_ (loc_of (by kernel_rfl)) (by decide +kernel) (by decide +kernel) (by decide +kernel) (by kernel_rfl) (by kernel_rfl) (by kernel_rfl) ?_
  · intro s vs ks _ hv hk
    obtain ⟨v, rfl, hv'⟩ := args1 hv
    cases kws0 hk
    exact ⟨[(Str.ofString "data", v)], BindsTo.of_eq (by kernel_rfl), by simp [hv']⟩
  · intro C' K
    have n0 : C'.env.scope.names[0]? = some (Str.ofString "data", NameKind.local) := by rw [K.scope]; rfl
    have w0 : Slot' C' (Str.ofString "data") 0 := .inl n0
    have n1 : C'.env.scope.names[1]? = some (Str.ofString "t", NameKind.local) := by rw [K.scope]; rfl
    have w1 : Slot' C' (Str.ofString "t") 1 := .inl n1
    have g2 : C'.env.kindOf (Str.ofString "type") = some .globalImplicit := kind_is K.scope (by kernel_rfl)
    have g3 : C'.env.kindOf (Str.ofString "str") = some .globalImplicit := kind_is K.scope (by kernel_rfl)
    have g4 : C'.env.kindOf (Str.ofString "ValueError") = some .globalImplicit := kind_is K.scope (by kernel_rfl)
    have g5 : C'.env.kindOf (Str.ofString "bytes") = some .globalImplicit := kind_is K.scope (by kernel_rfl)
    have g6 : C'.env.kindOf (Str.ofString "bytearray") = some .globalImplicit := kind_is K.scope (by kernel_rfl)
    have g7 : C'.env.kindOf (Str.ofString "_wall") = some .globalImplicit := kind_is K.scope (by kernel_rfl)
    have O' := K.ok
    have F' := K.kf F
    have hin := inter_of O'
    have b2 := is_type O' F' g2
    have b3 := is_str O' F' g3
    have b5 := is_bytes O' F' g5
    have b6 := is_bytearray O' F' g6
    rw [show initLoc (scopeN 16).names [(Str.ofString "data", PV.bytes b)].reverse = [some (.bytes b), none, none, none, none, none, none, none] by kernel_rfl]
    refine exs_letm ?_
    intro M0
    refine exs_cons ?_
    repeat' walk_at "v2"
    exact h
theorem spec_buffer {C : Cx} {m : Loc} {H : PH} {Q : PV → PH → Prop} (O : C.Ok) (F : KF C.K) (hr : C.A.depth < recursionLimit) {b : List UInt8} (h : Q (.bytes b) H) : Ca C m (.ref 111) [.bytes b] [] H Q := by
  refine call_fn O hr [(Str.ofString "data", .bytes b)] F.f17.at_ F.f17.code ?_ (loc_of (by kernel_rfl)) (by decide +kernel) (by decide +kernel) (by decide +kernel) (by kernel_rfl) (by kernel_rfl) (by kernel_rfl) ?_
  · intro s vs ks _ hv hk
    obtain ⟨v, rfl, hv'⟩ := args1 hv
    cases kws0 hk
    exact ⟨[(Str.ofString "data", v)], BindsTo.of_eq (by kernel_rfl), by simp [hv']⟩
  · intro C' K
    have n0 : C'.env.scope.names[0]? = some (Str.ofString "data", NameKind.local) := by rw [K.scope]; rfl
    have w0 : Slot' C' (Str.ofString "data") 0 := .inl n0
    have n1 : C'.env.scope.names[1]? = some (Str.ofString "t", NameKind.local) := by rw [K.scope]; rfl
    have w1 : Slot' C' (Str.ofString "t") 1 := .inl n1
    have g2 : C'.env.kindOf (Str.ofString "type") = some .globalImplicit := kind_is K.scope (by kernel_rfl)
    have g3 : C'.env.kindOf (Str.ofString "bytes") = some .globalImplicit := kind_is K.scope (by kernel_rfl)
    have g4 : C'.env.kindOf (Str.ofString "bytearray") = some .globalImplicit := kind_is K.scope (by kernel_rfl)
    have g5 : C'.env.kindOf (Str.ofString "_wall") = some .globalImplicit := kind_is K.scope (by kernel_rfl)
    have O' := K.ok
    have F' := K.kf F
    have hin := inter_of O'
    have b2 := is_type O' F' g2
    have b3 := is_bytes O' F' g3
    have b4 := is_bytearray O' F' g4
    rw [show initLoc (scopeN 17).names [(Str.ofString "data", PV.bytes b)].reverse = [some (.bytes b), none, none, none, none, none] by kernel_rfl]
    refine exs_letm ?_
    intro M0
    refine exs_cons ?_
    repeat' walk_at "v2"
    exact h
theorem spec_truth {C : Cx} {m : Loc} {H : PH} {Q : PV → PH → Prop} (O : C.Ok) (F : KF C.K) (hr : C.A.depth < recursionLimit) {b : Bool} (h : Q (.bool b) H) : Ca C m (.ref 118) [.bool b] [] H Q := by
  refine call_fn O hr [(Str.ofString "x", .bool b)] F.f18.at_ F.f18.code ?_ (loc_of (by kernel_rfl)) (by decide +kernel) (by decide +kernel) (by decide +kernel) (by kernel_rfl) (by kernel_rfl) (by kernel_rfl) ?_
  · intro s vs ks _ hv hk
    obtain ⟨v, rfl, hv'⟩ := args1 hv
    cases kws0 hk
    exact ⟨[(Str.ofString "x", v)], BindsTo.of_eq (by kernel_rfl), by simp [hv']⟩
  · intro C' K
    have n0 : C'.env.scope.names[0]? = some (Str.ofString "x", NameKind.local) := by rw [K.scope]; rfl
    have w0 : Slot' C' (Str.ofString "x") 0 := .inl n0
    have n1 : C'.env.scope.names[1]? = some (Str.ofString "t", NameKind.local) := by rw [K.scope]; rfl
    have w1 : Slot' C' (Str.ofString "t") 1 := .inl n1
    have g2 : C'.env.kindOf (Str.ofString "type") = some .globalImplicit := kind_is K.scope (by kernel_rfl)
    have g3 : C'.env.kindOf (Str.ofString "bool") = some .globalImplicit := kind_is K.scope (by kernel_rfl)
    have g4 : C'.env.kindOf (Str.ofString "int") = some .globalImplicit := kind_is K.scope (by kernel_rfl)
    have g5 : C'.env.kindOf (Str.ofString "float") = some .globalImplicit := kind_is K.scope (by kernel_rfl)
    have g6 : C'.env.kindOf (Str.ofString "complex") = some .globalImplicit := kind_is K.scope (by kernel_rfl)
    have g7 : C'.env.kindOf (Str.ofString "str") = some .globalImplicit := kind_is K.scope (by kernel_rfl)
    have g8 : C'.env.kindOf (Str.ofString "bytes") = some .globalImplicit := kind_is K.scope (by kernel_rfl)
    have g9 : C'.env.kindOf (Str.ofString "bytearray") = some .globalImplicit := kind_is K.scope (by kernel_rfl)
    have g10 : C'.env.kindOf (Str.ofString "list") = some .globalImplicit := kind_is K.scope (by kernel_rfl)
    have g11 : C'.env.kindOf (Str.ofString "tuple") = some .globalImplicit := kind_is K.scope (by kernel_rfl)
    have g12 : C'.env.kindOf (Str.ofString "dict") = some .globalImplicit := kind_is K.scope (by kernel_rfl)
    have g13 : C'.env.kindOf (Str.ofString "set") = some .globalImplicit := kind_is K.scope (by kernel_rfl)
    have g14 : C'.env.kindOf (Str.ofString "frozenset") = some .globalImplicit := kind_is K.scope (by kernel_rfl)
    have g15 : C'.env.kindOf (Str.ofString "range") = some .globalImplicit := kind_is K.scope (by kernel_rfl)
    have g16 : C'.env.kindOf (Str.ofString "_wall") = some .globalImplicit := kind_is K.scope (by kernel_rfl)
    have O' := K.ok
    have F' := K.kf F
    have hin := inter_of O'
    have b2 := is_type O' F' g2
    have b3 := is_bool O' F' g3
    have b7 := is_str O' F' g7
    have b8 := is_bytes O' F' g8
    have b9 := is_bytearray O' F' g9
    have b15 := is_range O' F' g15
    rw [show initLoc (scopeN 18).names [(Str.ofString "x", PV.bool b)].reverse = [some (.bool b), none, none, none, none, none, none, none, none, none, none, none, none, none, none, none, none] by kernel_rfl]
    refine exs_letm ?_
    intro M0
    refine exs_cons ?_
    repeat' walk_at "v2"
    all_goals cases b
    all_goals (repeat' walk_at "v2")
    all_goals exact h
noncomputable def b64ch (v : Nat) : Int := (b64abc.getD v 0).toNat
noncomputable def em (lc : Nat) : Nat → Nat → List Int
  | 0, _ => []
  | fuel + 1, bits => if 6 ≤ bits then b64ch (lc / 2 ^ (bits - 6) % 64) :: em lc fuel (bits - 6) else []
structure B2 where
  lc : Nat
  bits : Nat
  out : List Int
noncomputable def b2step (s : B2) (b : UInt8) : B2 :=
  let lc := (s.lc * 256 + b.toNat) % 65536
  ⟨lc, (s.bits + 8) % 6, s.out ++ em lc 3 (s.bits + 8)⟩
noncomputable def b2run (row : List UInt8) : B2 := row.foldl b2step ⟨0, 0, []⟩
noncomputable def b2fin (s : B2) : List Int := if s.bits = 2 then s.out ++ [b64ch (s.lc % 4 * 16), 61, 61] else if s.bits = 4 then s.out ++ [b64ch (s.lc % 16 * 4), 61] else s.out
theorem b2run_take {row : List UInt8} {k : Nat} {c : UInt8} (h : row[k]? = some c) : b2run (row.take (k + 1)) = b2step (b2run (row.take k)) c := by
  unfold b2run
  rw [List.take_add_one, h]
  simp
theorem b2run_ok : ∀ (row : List UInt8), (b2run row).lc < 65536 ∧ (b2run row).bits < 6 ∧ (b2run row).bits % 2 = 0 := by
  intro row
  unfold b2run
  suffices h : ∀ (row : List UInt8) (s : B2), (s.lc < 65536 ∧ s.bits < 6 ∧ s.bits % 2 = 0) → ((row.foldl b2step s).lc < 65536 ∧ (row.foldl b2step s).bits < 6 ∧ (row.foldl b2step s).bits % 2 = 0) from h row _ (by decide)
  intro row
  induction row with
  | nil => intro s h; exact h
  | cons c r ih =>
    intro s h
    rw [List.foldl_cons]
    refine ih _ ?_
    show (s.lc * 256 + c.toNat) % 65536 < 65536 ∧ (s.bits + 8) % 6 < 6 ∧ (s.bits + 8) % 6 % 2 = 0
    refine ⟨Nat.mod_lt _ (by decide), Nat.mod_lt _ (by decide), ?_⟩
    rw [Nat.mod_mod_of_dvd _ (by decide : 2 ∣ 6), Nat.add_mod, h.2.2]
theorem em_length (lc : Nat) : ∀ fuel n, (em lc fuel n).length ≤ fuel
  | 0, _ => Nat.le_refl _
  | fuel + 1, n => by
    unfold em
    split
    · rw [List.length_cons]; have := em_length lc fuel (n - 6); omega
    · exact Nat.zero_le _
theorem b2out_length : ∀ (row : List UInt8), (b2run row).out.length ≤ 3 * row.length := by
  intro row
  unfold b2run
  suffices h : ∀ (row : List UInt8) (s : B2), (row.foldl b2step s).out.length ≤ s.out.length + 3 * row.length from by simpa using h row ⟨0, 0, []⟩
  intro row
  induction row with
  | nil => intro s; simp
  | cons c r ih =>
    intro s
    rw [List.foldl_cons]
    have h1 := ih (b2step s c)
    have h2 : (b2step s c).out.length ≤ s.out.length + 3 := by
      show (s.out ++ em _ 3 _).length ≤ _
      rw [List.length_append]
      have := em_length ((s.lc * 256 + c.toNat) % 65536) 3 (s.bits + 8)
      omega
    rw [List.length_cons]
    omega
noncomputable def okB (l : List Int) : Prop := ∀ n ∈ l, 0 ≤ n ∧ n < 256
theorem b64ch_ok (v : Nat) : 0 ≤ b64ch v ∧ b64ch v < 256 := by
  have := (b64abc.getD v 0).toNat_lt
  unfold b64ch
  omega
theorem em_ok (lc : Nat) : ∀ fuel n, okB (em lc fuel n)
  | 0, _ => fun _ h => nomatch h
  | fuel + 1, n => by
    unfold em
    split
    · intro x hx
      rcases List.mem_cons.mp hx with rfl | hx
      · exact b64ch_ok _
      · exact em_ok lc fuel _ x hx
    · exact fun _ h => nomatch h
theorem okB_app {l r : List Int} (h1 : okB l) (h2 : okB r) : okB (l ++ r) := fun x hx => (List.mem_append.mp hx).elim (h1 x) (h2 x)
theorem okB_cons {x : Int} {r : List Int} (h1 : 0 ≤ x ∧ x < 256) (h2 : okB r) : okB (x :: r) := fun y hy => (List.mem_cons.mp hy).elim (fun e => e ▸ h1) (h2 y)
theorem okB_nil : okB [] := fun _ h => nomatch h
theorem b2out_ok : ∀ (row : List UInt8), okB (b2run row).out := by
  intro row
  unfold b2run
  suffices h : ∀ (row : List UInt8) (s : B2), okB s.out → okB (row.foldl b2step s).out from h row _ okB_nil
  intro row
  induction row with
  | nil => intro s h; exact h
  | cons c r ih => intro s h; rw [List.foldl_cons]; exact ih _ (okB_app h (em_ok _ _ _))
theorem b64abc_len : b64abc.length = 64 := rfl
theorem cast_sub6 {n : Nat} (h : 6 ≤ n) : (n : Int) - 6 = ((n - 6 : Nat) : Int) := by omega
theorem spec_b2a {C : Cx} {m : Loc} {H : PH} {Q : PV → PH → Prop} (O : C.Ok) (F : KF C.K) (hr : C.A.depth + 1 < recursionLimit) {row : List UInt8} (hrow : row.length ≤ 100) (h : ∀ H', Ext H H' → Q (.bytes (bts (b2fin (b2run row)))) H') : Ca C m (.ref 141) [.bytes row] [(Str.ofString "newline", .bool false)] H Q := by
  refine call_fn O (Nat.lt_of_succ_lt hr) [(Str.ofString "data", .bytes row), (Str.ofString "newline", .bool false)] F.f22.at_ F.f22.code ?_ (loc_of (by kernel_rfl)) (by decide +kernel) (by decide +kernel) (by decide +kernel) (by kernel_rfl) (by kernel_rfl) (by kernel_rfl) ?_
  · intro s vs ks _ hv hk
    obtain ⟨v, rfl, hv'⟩ := args1 hv
    obtain ⟨u, rfl, hu⟩ := kws1 hk
    exact ⟨[(Str.ofString "data", v), (Str.ofString "newline", u)], BindsTo.of_eq (by kernel_rfl), by simp [hv', hu]⟩
  · intro C' K
    have hr' : C'.A.depth < recursionLimit := by rw [K.depth]; exact hr
    have n0 : C'.env.scope.names[0]? = some (Str.ofString "data", NameKind.local) := by rw [K.scope]; rfl
    have w0 : Slot' C' (Str.ofString "data") 0 := .inl n0
    have n1 : C'.env.scope.names[1]? = some (Str.ofString "newline", NameKind.local) := by rw [K.scope]; rfl
    have w1 : Slot' C' (Str.ofString "newline") 1 := .inl n1
    have n2 : C'.env.scope.names[2]? = some (Str.ofString "bin_data", NameKind.local) := by rw [K.scope]; rfl
    have w2 : Slot' C' (Str.ofString "bin_data") 2 := .inl n2
    have n3 : C'.env.scope.names[3]? = some (Str.ofString "out", NameKind.local) := by rw [K.scope]; rfl
    have w3 : Slot' C' (Str.ofString "out") 3 := .inl n3
    have n4 : C'.env.scope.names[4]? = some (Str.ofString "leftbits", NameKind.local) := by rw [K.scope]; rfl
    have w4 : Slot' C' (Str.ofString "leftbits") 4 := .inl n4
    have n5 : C'.env.scope.names[5]? = some (Str.ofString "leftchar", NameKind.local) := by rw [K.scope]; rfl
    have w5 : Slot' C' (Str.ofString "leftchar") 5 := .inl n5
    have n6 : C'.env.scope.names[6]? = some (Str.ofString "b", NameKind.local) := by rw [K.scope]; rfl
    have w6 : Slot' C' (Str.ofString "b") 6 := .inl n6
    have g7 : C'.env.kindOf (Str.ofString "_buffer") = some .globalImplicit := kind_is K.scope (by kernel_rfl)
    have g8 : C'.env.kindOf (Str.ofString "_truth") = some .globalImplicit := kind_is K.scope (by kernel_rfl)
    have g9 : C'.env.kindOf (Str.ofString "_B64") = some .globalImplicit := kind_is K.scope (by kernel_rfl)
    have g10 : C'.env.kindOf (Str.ofString "bytes") = some .globalImplicit := kind_is K.scope (by kernel_rfl)
    have O' := K.ok
    have F' := K.kf F
    have hin := inter_of O'
    have b7 := is_F O' g7 F'.f17 (by decide)
    have q7 := kp_K O' F'.f17.keep
    have b8 := is_F O' g8 F'.f18 (by decide)
    have q8 := kp_K O' F'.f18.keep
    have b9 := is_B64 O' F' g9
    have b10 := is_bytes O' F' g10
    rw [show initLoc (scopeN 22).names [(Str.ofString "data", PV.bytes row), (Str.ofString "newline", .bool false)].reverse = [some (.bytes row), some (.bool false), none, none, none, none, none, none, none, none, none] by kernel_rfl]
    refine exs_letm ?_
    intro M0
    refine exs_cons ?_
    repeat walk_at "v2"
    refine spec_buffer O' F' hr' ?_
    repeat walk_at "v2"
    refine spec_truth O' F' hr' ?_
    repeat walk_at "v2"
    refine ⟨by simp, fun a ha => ?_⟩
    repeat walk_at "v2"
    let I : Nat → Loc → PH → Prop := fun k m1 H1 => ∃ x6, m1 = [some (.bytes row), some (.bool false), some (.bytes row), some (.ref a), some (.int (b2run (row.take k)).bits), some (.int (b2run (row.take k)).lc), x6, none, none, none, none] ∧
      H1 a = some (.list ((b2run (row.take k)).out.map .int)) ∧ Ext H H1
    refine ex_for_bytes O' w6 row I ?_ ?_ ?_ (by intro _; with_unfolding_all rfl)
    · walk_at "v1"
      exact ⟨rfl, none, rfl, set_self, Ext.set ha⟩
    · rintro k c m1 H1 hc ⟨x6, rfl, hH, hE⟩
      obtain ⟨hlc, hbits, heven⟩ := b2run_ok (row.take k)
      have hlen := b2out_length (row.take (k + 1))
      have hk : k < row.length := (List.getElem?_eq_some_iff.mp hc).1
      rw [List.length_take] at hlen
      have hst := b2run_take hc
      rw [hst] at hlen
      generalize hsd : b2run (row.take k) = sd at *
      obtain ⟨lc, bits, out⟩ := sd
      dsimp only at hlc hbits heven hH
      refine exs_cons ?_
      repeat walk_at "v2"
      refine bin_shl' (by decide) (by decide) (by dsimp only; omega) rfl ?_
      repeat walk_at "v2"
      refine bin_or' (or_shift lc c.toNat 8 c.toNat_lt) ?_
      repeat walk_at "v2"
      refine bin_and' (k := (((lc * 256 + c.toNat) % 65536 : Nat) : Int)) (by rw [bitAnd_m16]; rfl) ?_
      repeat walk_at "v2"
      let J : Nat → Loc → PH → Prop := fun n m2 H2 => ∃ (o : List Int) (fuel : Nat), m2 = [some (.bytes row), some (.bool false), some (.bytes row), some (.ref a), some (.int (n : Nat)), some (.int ((lc * 256 + c.toNat) % 65536 : Nat)), some (.int c.toNat), none, none, none, none] ∧
        H2 a = some (.list (o.map .int)) ∧ o ++ em ((lc * 256 + c.toNat) % 65536) fuel n = (b2step ⟨lc, bits, out⟩ c).out ∧ n < 6 * fuel ∧ n % 6 = (bits + 8) % 6 ∧ Ext H H2
      refine ex_while O' J (bits + 8) ⟨out, 3, rfl, hH, rfl, by omega, rfl, hE⟩ ?_
      rintro n m2 H2 ⟨o, fuel, rfl, hH2, hem, hn, hmod, hE2⟩
      repeat walk_at "v1"
      refine ite_dec (fun hge => ?_) (fun hlt => ?_)
      · have hge' : 6 ≤ n := Int.ofNat_le.mp hge
        cases fuel with
        | zero => omega
        | succ fuel =>
          rw [em, if_pos hge'] at hem
          have hol : o.length + 1 ≤ 300 := by
            have := congrArg List.length hem
            rw [List.length_append, List.length_cons] at this
            omega
          refine exs_cons ?_
          repeat walk_at "v1"
          refine ⟨a, rfl, ⟨_, hH2⟩, ?_⟩
          repeat walk_at "v1"
          refine bin_shr' (by omega) (k := (((lc * 256 + c.toNat) % 65536 / 2 ^ (n - 6) : Nat) : Int)) (by rw [cast_sub6 hge', Int.toNat_natCast]; exact shr_nat _ _) ?_
          repeat walk_at "v1"
          refine bin_and' (k := (((lc * 256 + c.toNat) % 65536 / 2 ^ (n - 6) % 64 : Nat) : Int)) (by rw [bitAnd_m6]; rfl) ?_
          refine sub_bytes (by omega) (by rw [b64abc_len]; omega) (by decide) ?_
          refine ⟨_, hH2, by rw [List.length_map]; omega, ?_⟩
          repeat walk_at "v1"
          refine ⟨n - 6, Nat.sub_lt_self (by decide) hge', o ++ [b64ch ((lc * 256 + c.toNat) % 65536 / 2 ^ (n - 6) % 64)], fuel, ?_, ?_, ?_, Nat.sub_lt_left_of_lt_add hge' (by rw [Nat.add_comm]; exact hn), (Nat.mod_eq_sub_mod hge').symm.trans hmod, ?_⟩
          · rw [cast_sub6 hge']
            rfl
          · rw [set_self, List.map_append]
            rfl
          · rw [List.append_assoc]; exact hem
          · exact Ext.mut ha hE2
      · have hn6 : n < 6 := Int.ofNat_lt.mp (Int.not_le.mp hlt)
        have hem0 : em ((lc * 256 + c.toNat) % 65536) fuel n = [] := by
          cases fuel with
          | zero => rfl
          | succ f => rw [em, if_neg (Nat.not_le.mpr hn6)]
        rw [hem0, List.append_nil] at hem
        repeat walk_at "v2"
        refine ⟨some (.int c.toNat), ?_, ?_, hE2⟩
        · have : n = (bits + 8) % 6 := (Nat.mod_eq_of_lt hn6).symm.trans hmod
          rw [hst, this]
          rfl
        · rw [hst, hH2, hem]
    · rintro m1 H1 ⟨x6, rfl, hH, hE⟩
      obtain ⟨hlc, hbits, heven⟩ := b2run_ok row
      have hlen := b2out_length row
      have hok := b2out_ok row
      rw [List.take_length] at hH ⊢
      clear I
      generalize hsd : b2run row = sd at *
      obtain ⟨lc, bits, out⟩ := sd
      dsimp only at hlc hbits heven hH hlen
      unfold b2fin at h
      dsimp only at h
      repeat walk_at "v2"
      · rename_i e2 e4
        dsimp only at e2 e4
        rw [if_neg (by omega), if_neg (by omega)] at h
        refine ca_bytes O' hH hok (by omega) ?_
        repeat walk_at "v2"
        exact h _ hE
      · rename_i e2 e4
        dsimp only at e2 e4
        rw [if_neg (by omega), if_pos (by omega)] at h
        refine ⟨a, rfl, ⟨_, hH⟩, ?_⟩
        repeat walk_at "v2"
        refine bin_and' (k := ((lc % 16 : Nat) : Int)) (by rw [bitAnd_m4]; rfl) ?_
        repeat walk_at "v2"
        refine bin_shl' (by decide) (by decide) (by omega) (k := ((lc % 16 * 4 : Nat) : Int)) (by push_cast; rfl) ?_
        refine sub_bytes (by omega) (by rw [b64abc_len]; omega) (by decide) ?_
        refine ⟨_, hH, by rw [List.length_map]; omega, ?_⟩
        repeat walk_at "v2"
        refine ⟨a, rfl, ⟨_, set_self⟩, ?_⟩
        repeat walk_at "v2"
        refine ⟨_, set_self, by rw [List.length_append, List.length_map, List.length_singleton]; omega, ?_⟩
        repeat walk_at "v2"
        refine ca_bytes O' (ns := out ++ [b64ch (lc % 16 * 4), 61]) (by rw [set_self, List.map_append, List.append_assoc]; rfl) (okB_app hok (okB_cons (b64ch_ok _) (okB_cons (by decide) okB_nil))) (by rw [List.length_append]; simp; omega) ?_
        repeat walk_at "v2"
        exact h _ (Ext.mut ha (Ext.mut ha hE))
      · rename_i e2
        dsimp only at e2
        rw [if_pos (by omega)] at h
        refine ⟨a, rfl, ⟨_, hH⟩, ?_⟩
        repeat walk_at "v2"
        refine bin_and' (k := ((lc % 4 : Nat) : Int)) (by rw [bitAnd_m2]; rfl) ?_
        repeat walk_at "v2"
        refine bin_shl' (by decide) (by decide) (by omega) (k := ((lc % 4 * 16 : Nat) : Int)) (by push_cast; rfl) ?_
        refine sub_bytes (by omega) (by rw [b64abc_len]; omega) (by decide) ?_
        refine ⟨_, hH, by rw [List.length_map]; omega, ?_⟩
        repeat walk_at "v2"
        refine ⟨a, rfl, ⟨_, set_self⟩, ?_⟩
        repeat walk_at "v2"
        refine ⟨_, set_self, by rw [List.length_append, List.length_map, List.length_singleton]; omega, ?_⟩
        repeat walk_at "v2"
        refine ⟨a, rfl, ⟨_, set_self⟩, ?_⟩
        repeat walk_at "v2"
        refine ⟨_, set_self, by rw [List.length_append, List.length_append, List.length_map, List.length_singleton, List.length_singleton]; omega, ?_⟩
        repeat walk_at "v2"
        refine ca_bytes O' (ns := out ++ [b64ch (lc % 4 * 16), 61, 61]) (by rw [set_self, List.map_append, List.append_assoc, List.append_assoc]; rfl) (okB_app hok (okB_cons (b64ch_ok _) (okB_cons (by decide) (okB_cons (by decide) okB_nil)))) (by rw [List.length_append]; simp; omega) ?_
        repeat walk_at "v2"
        exact h _ (Ext.mut ha (Ext.mut ha (Ext.mut ha hE)))
noncomputable def encF (row alt : List UInt8) : List UInt8 := trB (mkTable [43, 47] alt) (bts (b2fin (b2run row)))
theorem b2fin_length (row : List UInt8) : (b2fin (b2run row)).length ≤ 3 * row.length + 3 := by
  have := b2out_length row
  unfold b2fin
  split
  · simp; omega
  · split
    · simp; omega
    · omega
theorem spec_encode {C : Cx} {m : Loc} {H : PH} {Q : PV → PH → Prop} (O : C.Ok) (F : KF C.K) (hr : C.A.depth + 2 < recursionLimit) {row alt : List UInt8} (hrow : row.length ≤ 100) (halt : alt.length = 2) (h : ∀ H', Ext H H' → Q (.bytes (encF row alt)) H') : Ca C m (.ref 149) [.bytes row, .bytes alt] [] H Q := by
  refine call_fn O (by omega) [(Str.ofString "s", .bytes row), (Str.ofString "altchars", .bytes alt)] F.f24.at_ F.f24.code ?_ (loc_of (by kernel_rfl)) (by decide +kernel) (by decide +kernel) (by decide +kernel) (by kernel_rfl) (by kernel_rfl) (by kernel_rfl) ?_
  · intro s vs ks X hv hk
    obtain ⟨v, u, rfl, hv', hu⟩ := args2 hv
    cases kws0 hk
    exact ⟨[(Str.ofString "s", v), (Str.ofString "altchars", u)], BindsTo.of_defaults rfl (X _ _ F.o142) rfl (by with_unfolding_all rfl) (by with_unfolding_all rfl), by simp [hv', hu]⟩
  · intro C' K
    have hr' : C'.A.depth + 1 < recursionLimit := by rw [K.depth]; omega
    have n0 : C'.env.scope.names[0]? = some (Str.ofString "s", NameKind.local) := by rw [K.scope]; rfl
    have w0 : Slot' C' (Str.ofString "s") 0 := .inl n0
    have n1 : C'.env.scope.names[1]? = some (Str.ofString "altchars", NameKind.local) := by rw [K.scope]; rfl
    have w1 : Slot' C' (Str.ofString "altchars") 1 := .inl n1
    have n2 : C'.env.scope.names[2]? = some (Str.ofString "encoded", NameKind.local) := by rw [K.scope]; rfl
    have w2 : Slot' C' (Str.ofString "encoded") 2 := .inl n2
    have g3 : C'.env.kindOf (Str.ofString "b2a_base64") = some .globalImplicit := kind_is K.scope (by kernel_rfl)
    have g4 : C'.env.kindOf (Str.ofString "len") = some .globalImplicit := kind_is K.scope (by kernel_rfl)
    have g5 : C'.env.kindOf (Str.ofString "repr") = some .globalImplicit := kind_is K.scope (by kernel_rfl)
    have g6 : C'.env.kindOf (Str.ofString "bytes") = some .globalImplicit := kind_is K.scope (by kernel_rfl)
    have O' := K.ok
    have F' := K.kf F
    have hin := inter_of O'
    have b3 := is_F O' g3 F'.f22 (by decide)
    have q3 := kp_K O' F'.f22.keep
    have b4 := is_len O' F' g4
    have b6 := is_bytes O' F' g6
    rw [show initLoc (scopeN 24).names [(Str.ofString "s", PV.bytes row), (Str.ofString "altchars", .bytes alt)].reverse = [some (.bytes row), some (.bytes alt), none, none, none, none, none] by kernel_rfl]
    refine exs_letm ?_
    intro M0
    refine exs_cons ?_
    walk_at "v1"
    refine ev_callFkw O' (by assumption) F'.f22 ?_ (by intro _; with_unfolding_all rfl) (by with_unfolding_all rfl)
    repeat walk_at "v2"
    refine spec_b2a O' F' hr' hrow fun H1 hE => ?_
    repeat walk_at "v2"
    refine ca_len_bytes (by omega) ?_
    repeat walk_at "v2"
    refine ⟨by rw [halt]; rfl, ?_⟩
    repeat walk_at "v2"
    refine ev_method "bytes" "bytes.translate" FB.plainAttrs_bytes slot_bytes_translate type_bytes_translate ?_ (by with_unfolding_all rfl) (by with_unfolding_all rfl) (by intro _; with_unfolding_all rfl) (by simp)
    repeat walk_at "v2"
    refine ⟨rfl, ?_⟩
    walk_at "v1"
    refine ev_maketrans O' F' ?_ (by with_unfolding_all rfl) (by with_unfolding_all rfl) (by intro _; with_unfolding_all rfl)
    repeat walk_at "v2"
    refine ⟨rfl, ?_⟩
    repeat walk_at "v2"
    refine ca_maketrans (by rw [halt]; rfl) ?_
    repeat walk_at "v2"
    refine ca_transB (mkTable_size _ _) (by unfold bts; rw [List.length_map]; have := b2fin_length row; omega) ?_
    repeat walk_at "v2"
    exact h _ hE
theorem spec_escape {C : Cx} {m : Loc} {H : PH} {Q : PV → PH → Prop} (O : C.Ok) (F : KF C.K) (hr : C.A.depth < recursionLimit) {c : Nat} (hc : c < 128) (h : Q (.str (escOf c)) H) : Ca C m (.ref 62) [.str [c]] [] H Q := by
  refine call_fn O (by omega) [(Str.ofString "pattern", .str [c])] F.f7.at_ F.f7.code ?_ (loc_of (by kernel_rfl)) (by decide +kernel) (by decide +kernel) (by decide +kernel) (by kernel_rfl) (by kernel_rfl) (by kernel_rfl) ?_
  · intro s vs ks X hv hk
    obtain ⟨v, rfl, hv'⟩ := args1 hv
    cases kws0 hk
    exact ⟨[(Str.ofString "pattern", v)], BindsTo.of_eq (by kernel_rfl), by simp [hv']⟩
  · intro C' K
    have n0 : C'.env.scope.names[0]? = some (Str.ofString "pattern", NameKind.local) := by rw [K.scope]; rfl
    have w0 : Slot' C' (Str.ofString "pattern") 0 := .inl n0
    have g1 : C'.env.kindOf (Str.ofString "isinstance") = some .globalImplicit := kind_is K.scope (by kernel_rfl)
    have g2 : C'.env.kindOf (Str.ofString "str") = some .globalImplicit := kind_is K.scope (by kernel_rfl)
    have g3 : C'.env.kindOf (Str.ofString "_special_chars_map") = some .globalImplicit := kind_is K.scope (by kernel_rfl)
    have O' := K.ok
    have F' := K.kf F
    have hin := inter_of O'
    have b1 := is_isinstance O' F' g1
    have b2 := is_str O' F' g2
    rw [show initLoc (scopeN 7).names [(Str.ofString "pattern", PV.str [c])].reverse = [some (.str [c]), none, none, none] by kernel_rfl]
    refine exs_letm ?_
    intro M0
    refine exs_cons ?_
    repeat walk_at "v2"
    refine ev_method "str" "str.translate" PySem.F.plainAttrs_str slot_str_translate type_str_translate ?_ (by with_unfolding_all rfl) (by with_unfolding_all rfl) (by intro _; with_unfolding_all rfl) (by simp)
    repeat walk_at "v2"
    refine ⟨rfl, ?_⟩
    repeat walk_at "v2"
    refine nm_K O' (by assumption) F'.n_spc ?_
    repeat walk_at "v2"
    refine ca_transS O' F' hc ?_
    repeat walk_at "v2"
    exact h
set_option maxHeartbeats 8000000 in
theorem spec_translate_ {C : Cx} {m : Loc} {H : PH} {Q : PV → PH → Prop} (O : C.Ok) (F : KF C.K) (hr : C.A.depth + 1 < recursionLimit) {pat : List Nat} {sa : Addr} (hp : GoodPat pat) (hl : pat.length ≤ 1000) (htab : TabOk H) (hsa : ∃ po, H sa = some po ∧ sa ≠ 64)
    (h : ∀ H' ra, Ext H H' → H ra = none → H' ra = some (.list ((trAll pat).map (Part.pv sa))) → Q (.ref ra) H') : Ca C m (.ref 69) [.str pat, .ref sa, .str [46]] [] H Q := by
  refine call_fn O (by omega) [(Str.ofString "pat", .str pat), (Str.ofString "STAR", .ref sa), (Str.ofString "QUESTION_MARK", .str [46])] F.f9.at_ F.f9.code ?_ (loc_of (by kernel_rfl)) (by decide +kernel) (by decide +kernel) (by decide +kernel) (by kernel_rfl) (by kernel_rfl) (by kernel_rfl) ?_
  · intro s vs ks X hv hk
    obtain ⟨v, w, u, rfl, hv', hw', hu'⟩ := args3 hv
    cases kws0 hk
    exact ⟨[(Str.ofString "pat", v), (Str.ofString "STAR", w), (Str.ofString "QUESTION_MARK", u)], BindsTo.of_eq (by kernel_rfl), by simp [hv', hw', hu']⟩
  · intro C' K
    have hr' : C'.A.depth < recursionLimit := by rw [K.depth]; omega
    have hcode : C'.env.code = .ref 68 := by
      obtain ⟨L', e⟩ := K.env
      rw [e]; rfl
    obtain ⟨L', henv⟩ := K.env
    have n0 : C'.env.scope.names[0]? = some (Str.ofString "pat", NameKind.local) := by rw [K.scope]; rfl
    have w0 : Slot' C' (Str.ofString "pat") 0 := .inl n0
    have n1 : C'.env.scope.names[1]? = some (Str.ofString "STAR", NameKind.local) := by rw [K.scope]; rfl
    have w1 : Slot' C' (Str.ofString "STAR") 1 := .inl n1
    have n2 : C'.env.scope.names[2]? = some (Str.ofString "QUESTION_MARK", NameKind.local) := by rw [K.scope]; rfl
    have w2 : Slot' C' (Str.ofString "QUESTION_MARK") 2 := .inl n2
    have n3 : C'.env.scope.names[3]? = some (Str.ofString "res", NameKind.local) := by rw [K.scope]; rfl
    have w3 : Slot' C' (Str.ofString "res") 3 := .inl n3
    have n4 : C'.env.scope.names[4]? = some (Str.ofString "add", NameKind.local) := by rw [K.scope]; rfl
    have w4 : Slot' C' (Str.ofString "add") 4 := .inl n4
    have n5 : C'.env.scope.names[5]? = some (Str.ofString "i", NameKind.local) := by rw [K.scope]; rfl
    have w5 : Slot' C' (Str.ofString "i") 5 := .inl n5
    have n6 : C'.env.scope.names[6]? = some (Str.ofString "n", NameKind.local) := by rw [K.scope]; rfl
    have w6 : Slot' C' (Str.ofString "n") 6 := .inl n6
    have n7 : C'.env.scope.names[7]? = some (Str.ofString "c", NameKind.local) := by rw [K.scope]; rfl
    have w7 : Slot' C' (Str.ofString "c") 7 := .inl n7
    have n8 : C'.env.scope.names[8]? = some (Str.ofString "j", NameKind.local) := by rw [K.scope]; rfl
    have w8 : Slot' C' (Str.ofString "j") 8 := .inl n8
    have n9 : C'.env.scope.names[9]? = some (Str.ofString "stuff", NameKind.local) := by rw [K.scope]; rfl
    have w9 : Slot' C' (Str.ofString "stuff") 9 := .inl n9
    have n10 : C'.env.scope.names[10]? = some (Str.ofString "chunks", NameKind.local) := by rw [K.scope]; rfl
    have w10 : Slot' C' (Str.ofString "chunks") 10 := .inl n10
    have n11 : C'.env.scope.names[11]? = some (Str.ofString "k", NameKind.local) := by rw [K.scope]; rfl
    have w11 : Slot' C' (Str.ofString "k") 11 := .inl n11
    have n12 : C'.env.scope.names[12]? = some (Str.ofString "chunk", NameKind.local) := by rw [K.scope]; rfl
    have w12 : Slot' C' (Str.ofString "chunk") 12 := .inl n12
    have g13 : C'.env.kindOf (Str.ofString "len") = some .globalImplicit := kind_is K.scope (by kernel_rfl)
    have g14 : C'.env.kindOf (Str.ofString "range") = some .globalImplicit := kind_is K.scope (by kernel_rfl)
    have g15 : C'.env.kindOf (Str.ofString "_twin_re_1") = some .globalImplicit := kind_is K.scope (by kernel_rfl)
    have g16 : C'.env.kindOf (Str.ofString "escape") = some .globalImplicit := kind_is K.scope (by kernel_rfl)
    have O' := K.ok
    have F' := K.kf F
    have hin := inter_of O'
    have b13 := is_len O' F' g13
    have b14 := is_range O' F' g14
    have b16 := is_F O' g16 F'.f7 (by decide)
    have q16 := kp_K O' F'.f7.keep
    rw [show initLoc (scopeN 9).names [(Str.ofString "pat", PV.str pat), (Str.ofString "STAR", .ref sa), (Str.ofString "QUESTION_MARK", .str [46])].reverse = [some (.str pat), some (.ref sa), some (.str [46]), none, none, none, none, none, none, none, none, none, none, none, none, none, none] by kernel_rfl]
    refine exs_letm ?_
    intro M0
    refine exs_cons ?_
    repeat walk_at "v2"
    refine ⟨by simp, fun ra hra => ?_⟩
    repeat walk_at "v2"
    refine ev_bound ?_ (by intro _; with_unfolding_all rfl) (by intro _ _; with_unfolding_all rfl)
    repeat walk_at "v2"
    refine ⟨ra, _, rfl, set_self, fun ba hba => ?_⟩
    repeat walk_at "v2"
    refine ex_swp2 O' w5 w6 ?_ (by with_unfolding_all rfl) (by rw [henv]; kernel_rfl)
    repeat walk_at "v2"
    have hp16 : pat.length ≤ 16777216 := Nat.le_trans hl (by decide)
    refine ca_len_str hp16 ?_
    repeat walk_at "v2"
    refine ⟨by simp, fun ta hta => ⟨ta, _, _, rfl, set_self, ?_⟩⟩
    have hE0 : Ext H (((H.set ra (.list [])).set ba (.raw (boundApp ra))).set ta (.tuple [.int 0, .int pat.length])) := Ext.trans (Ext.set hra) (Ext.trans (Ext.set hba) (Ext.set hta))
    have hra0 : (((H.set ra (.list [])).set ba (.raw (boundApp ra))).set ta (.tuple [.int 0, .int pat.length])) ra = some (.list []) := set_old hta (set_old hba set_self)
    have hba0 : (((H.set ra (.list [])).set ba (.raw (boundApp ra))).set ta (.tuple [.int 0, .int pat.length])) ba = some (.raw (boundApp ra)) := set_old hta set_self
    generalize (((H.set ra (.list [])).set ba (.raw (boundApp ra))).set ta (.tuple [.int 0, .int pat.length])) = H0 at hE0 hra0 hba0 ⊢
    have hbr : ba ≠ ra := fun e => by rw [e, hra0] at hba0; cases hba0
    have hr64 : ra ≠ 64 := fun e => by obtain ⟨ps, h1, _⟩ := htab; rw [e, h1] at hra; cases hra
    have hb64 : ba ≠ 64 := fun e => by
      obtain ⟨ps, h1, _⟩ := htab
      rw [e, set_other (fun e => hr64 e.symm), h1] at hba; cases hba
    refine exs_cons ?_
    let M : Option PV → Option PV → Option PV → Option PV → Loc := fun i x7 x8 x9 => [some (.str pat), some (.ref sa), some (.str [46]), some (.ref ra), some (.ref ba), i, some (.int pat.length), x7, x8, x9, none, none, none, none, none, none, none]
    let I : Nat → Loc → PH → Prop := fun k m1 H1 => ∃ (i : Nat) (res : List Part) (x7 x8 x9 : Option PV) (f : Nat), m1 = M (some (.int i)) x7 x8 x9 ∧
      H1 ra = some (.list (res.map (Part.pv sa))) ∧ H1 ba = some (.raw (boundApp ra)) ∧ Ext H H1 ∧ trRun pat f i res = trAll pat ∧ i ≤ pat.length ∧ pat.length - i ≤ f ∧ k = pat.length - i ∧ res.length ≤ i
    refine ex_while O' I pat.length
      ⟨0, [], none, none, none, pat.length, rfl, hra0, hba0, hE0, rfl, by omega, by omega, by omega, by simp⟩ ?_
    rintro k m1 H1 ⟨i, res, x7, x8, x9, f, rfl, hH, hB, hE, hrun, hi, hf, rfl, hres⟩
    repeat walk_at "v1"
    refine ite_dec (fun hlt => ?_) (fun hge => ?_)
    · have hlt' : i < pat.length := Int.ofNat_lt.mp hlt
      have hrl16 : (res.map (Part.pv sa)).length ≤ 16777216 := by rw [List.length_map]; exact Nat.le_trans hres (Nat.le_trans hi hp16)
      cases f with
      | zero => omega
      | succ f =>
        rw [trRun, if_pos hlt'] at hrun
        unfold trStep at hrun
        have hci : pat[i]? = some (pat.getD i 0) := by rw [List.getD, List.getElem?_eq_getElem hlt']; rfl
        have hc128 := hp.1 _ (List.mem_of_getElem? hci)
        obtain ⟨c, hc⟩ : ∃ c, pat.getD i 0 = c := ⟨_, rfl⟩
        rw [hc] at hrun hci hc128
        -- one more part
        have more : ∀ (p : Part) (x7 x8 x9 : Option PV) (H2 : PH) (i' : Nat), Ext H1 H2 → i < i' → i' ≤ pat.length → trRun pat f i' (res ++ [p]) = trAll pat →
            ∃ n', n' < pat.length - i ∧ I n' (M (some (.int i')) x7 x8 x9) (H2.set ra (.list (res.map (Part.pv sa) ++ [p.pv sa]))) := by
          intro p x7 x8 x9 H2 i' hE2 hii hi' hr2
          refine ⟨pat.length - i', Nat.sub_lt_sub_left hlt' hii, i', res ++ [p], x7, x8, x9, f, rfl, ?_, ?_, Ext.mut hra (Ext.trans hE hE2), hr2, hi', by omega, rfl, ?_⟩
          · rw [set_self, List.map_append]; rfl
          · rw [set_other hbr]; exact hE2.1 _ _ hb64 hB
          · rw [List.length_append]; exact Nat.lt_of_le_of_lt hres hii
        refine exs_cons ?_
        repeat walk_at "v1"
        refine sub_str (Int.natCast_nonneg _) hlt hp16 ?_
        rw [Int.toNat_natCast, hc]
        repeat walk_at "v1"
        refine ite_eqS (fun e => ?_) (fun hn42 => ?_)
        · -- a star
          have h42 : c = 42 := one_of e (by decide +kernel)
          dsimp only at hrun
          rw [if_pos h42] at hrun
          repeat walk_at "v1"
          rcases List.eq_nil_or_concat res with rfl | ⟨r, p, rfl⟩
          · refine tr_list hH (by simp) ?_
            rw [show (!(List.map (Part.pv sa) []).isEmpty) = false from rfl]
            show OrQ _ _ _ _ true _
            repeat walk_at "v2"
            refine ⟨ba, ra, rfl, ?_⟩
            repeat walk_at "v1"
            refine ⟨hB, _, hH, by simp, ?_⟩
            repeat walk_at "v1"
            exact more .star _ x8 x9 H1 (i + 1) Ext.refl (Nat.lt_succ_self i) hlt' hrun
          · refine tr_list hH hrl16 ?_
            rw [show (!(List.map (Part.pv sa) (r.concat p)).isEmpty) = true by simp]
            show OrQ _ _ _ _ false _
            repeat walk_at "v2"
            have hlast : (r.concat p).getLast? = some p := by simp
            rw [hlast] at hrun
            refine sub_list_neg hH (by decide) (by rw [List.length_map]; simp; omega) hrl16 (z := p.pv sa) ?_ ?_
            · rw [List.length_map, List.getElem?_map]
              have : ((-1 : Int) + ((r.concat p).length : Int)).toNat = r.length := by rw [List.length_concat]; omega
              rw [this, List.concat_eq_append, List.getElem?_append_right (Nat.le_refl _), Nat.sub_self]
              rfl
            · repeat walk_at "v1"
              cases p with
              | star =>
                refine cmp_isNot_self ?_
                repeat walk_at "v2"
                refine ⟨pat.length - (i + 1), Nat.sub_lt_sub_left hlt' (Nat.lt_succ_self i), i + 1, r.concat .star, _, x8, x9, f, rfl, hH, hB, hE, ?_, by omega, by omega, rfl, by omega⟩
                rw [if_pos (by rfl)] at hrun
                exact hrun
              | txt l =>
                refine cmp_isNot (bb := false) (by constructor) ?_
                repeat walk_at "v2"
                refine ⟨ba, ra, rfl, ?_⟩
                repeat walk_at "v1"
                refine ⟨hB, _, hH, hrl16, ?_⟩
                repeat walk_at "v1"
                refine more .star _ x8 x9 H1 (i + 1) Ext.refl (Nat.lt_succ_self i) hlt' ?_
                rw [if_neg (by show ¬ (some false = some true); simp)] at hrun
                exact hrun
        · have h42 : c ≠ 42 := not_one hn42 (by decide +kernel)
          dsimp only at hrun
          rw [if_neg h42] at hrun
          repeat walk_at "v1"
          refine ite_eqS (fun e => ?_) (fun hn63 => ?_)
          · have h63 : c = 63 := one_of e (by decide +kernel)
            rw [if_pos h63] at hrun
            repeat walk_at "v1"
            refine ⟨ba, ra, rfl, ?_⟩
            repeat walk_at "v1"
            refine ⟨hB, _, hH, hrl16, ?_⟩
            repeat walk_at "v1"
            exact more (.txt [46]) _ x8 x9 H1 (i + 1) Ext.refl (Nat.lt_succ_self i) hlt' hrun
          · have h63 : c ≠ 63 := not_one hn63 (by decide +kernel)
            rw [if_neg h63] at hrun
            repeat walk_at "v1"
            refine ite_eqS (fun e => ?_) (fun hn91 => ?_)
            · have h91 : c = 91 := one_of e (by decide +kernel)
              rw [if_pos h91] at hrun
              rw [h91] at hci
              have hset := hp.2 i
              generalize hr : pat.drop (i + 1) = r at hrun hset
              have hrl : r.length = pat.length - (i + 1) := by rw [← hr, List.length_drop]
              have hrg : ∀ t, r[t]? = pat[i + 1 + t]? := fun t => by rw [← hr, List.getElem?_drop]
              have hgd : ∀ t, t < r.length → r[t]? = some (pat.getD (i + 1 + t) 0) := fun t ht => by
                rw [hrg, List.getD, List.getElem?_eq_getElem (by omega)]; rfl
              refine exs_cons ?_
              repeat walk_at "vx"
              generalize hk0 : (if r[0]? = some 33 then 1 else 0) = k0
              have hk0l : k0 ≤ r.length := by
                rw [← hk0]
                split
                · rename_i e; have := (List.getElem?_eq_some_iff.mp e).1; omega
                · omega
              have hsf : setFrom r = if r[k0]? = some 93 then k0 + 1 else k0 := by rw [← hk0]; rfl
              have hsl : setFrom r ≤ r.length := by
                rw [hsf]
                split
                · rename_i e; have := (List.getElem?_eq_some_iff.mp e).1; omega
                · omega
              refine exs_step (fun m1 H2 => H1 = H2 ∧ m1 = M (some (.int (i + 1 : Nat))) (some (.str [c])) (some (.int (i + 1 + k0 : Nat))) x9) ?_ ?_
              · repeat walk_at "v1"
                refine ite_dec (fun hj => ?_) (fun hj => ?_)
                · repeat walk_at "v1"
                  refine sub_str (by omega) hj hp16 ?_
                  repeat walk_at "v1"
                  refine ite_eqS (fun e => ?_) (fun hn => ?_)
                  · have e33 : pat.getD (i + 1) 0 = 33 := one_of e (by decide +kernel)
                    have : k0 = 1 := by rw [← hk0, if_pos]; rw [hgd 0 (by omega)]; rw [Nat.add_zero, e33]
                    repeat walk_at "v1"
                    subst this
                    exact ⟨rfl, rfl⟩
                  · have e33 : pat.getD (i + 1) 0 ≠ 33 := not_one hn (by decide +kernel)
                    have : k0 = 0 := by rw [← hk0, if_neg]; rw [hgd 0 (by omega), Nat.add_zero]; simpa using e33
                    repeat walk_at "v1"
                    subst this
                    exact ⟨rfl, rfl⟩
                · have : k0 = 0 := by rw [← hk0, if_neg]; rw [List.getElem?_eq_none (by omega)]; simp
                  repeat walk_at "v1"
                  subst this
                  exact ⟨rfl, rfl⟩
              rintro m1 _ ⟨rfl, rfl⟩
              refine exs_step (fun m1 H2 => H1 = H2 ∧ m1 = M (some (.int (i + 1 : Nat))) (some (.str [c])) (some (.int (i + 1 + setFrom r : Nat))) x9) ?_ ?_
              · repeat walk_at "v1"
                refine ite_dec (fun hj => ?_) (fun hj => ?_)
                · repeat walk_at "v1"
                  refine sub_str (Int.natCast_nonneg _) hj hp16 ?_
                  rw [Int.toNat_natCast]
                  repeat walk_at "v1"
                  refine ite_eqS (fun e => ?_) (fun hn => ?_)
                  · have e93 : pat.getD (i + 1 + k0) 0 = 93 := one_of e (by decide +kernel)
                    have : setFrom r = k0 + 1 := by rw [hsf, if_pos]; rw [hgd k0 (by omega), e93]
                    repeat walk_at "v1"
                    rw [this]
                    exact ⟨rfl, rfl⟩
                  · have e93 : pat.getD (i + 1 + k0) 0 ≠ 93 := not_one hn (by decide +kernel)
                    have : setFrom r = k0 := by rw [hsf, if_neg]; rw [hgd k0 (by omega)]; simpa using e93
                    repeat walk_at "v1"
                    rw [this]
                    exact ⟨rfl, rfl⟩
                · have : setFrom r = k0 := by rw [hsf, if_neg]; rw [List.getElem?_eq_none (by omega)]; simp
                  repeat walk_at "v1"
                  rw [this]
                  exact ⟨rfl, rfl⟩
              rintro m1 _ ⟨rfl, rfl⟩
              refine exs_step (fun m1 H2 => H1 = H2 ∧ ∃ j : Nat, m1 = M (some (.int (i + 1 : Nat))) (some (.str [c])) (some (.int j)) x9 ∧
                ((bracket r = none ∧ pat.length ≤ j) ∨ ∃ L, bracket r = some L ∧ j = i + 1 + L)) ?_ ?_
              · refine ex_while O' (fun k m1 H2 => H1 = H2 ∧ ∃ j : Nat, m1 = M (some (.int (i + 1 : Nat))) (some (.str [c])) (some (.int j)) x9 ∧
                  i + 1 + setFrom r ≤ j ∧ j ≤ pat.length ∧ (∀ t, setFrom r ≤ t → i + 1 + t < j → r[t]? ≠ some 93) ∧ k = pat.length - j) (pat.length - (i + 1 + setFrom r)) ⟨rfl, i + 1 + setFrom r, rfl, Nat.le_refl _, by omega, fun t h1 h2 => by omega, rfl⟩ ?_
                rintro k m1 _ ⟨rfl, j, rfl, hj1, hj2, hj3, rfl⟩
                repeat walk_at "v1"
                refine ite_dec (fun hj => ?_) (fun hj => ?_)
                · repeat walk_at "v1"
                  refine sub_str (Int.natCast_nonneg _) hj hp16 ?_
                  rw [Int.toNat_natCast]
                  have hrj : r[j - (i + 1)]? = some (pat.getD j 0) := by
                    rw [hgd _ (by omega)]
                    have : i + 1 + (j - (i + 1)) = j := by omega
                    rw [this]
                  repeat walk_at "v1"
                  refine ite_neS (fun hn => ?_) (fun e => ?_)
                  · have e93 : pat.getD j 0 ≠ 93 := not_one hn (by decide +kernel)
                    repeat walk_at "v1"
                    refine ⟨pat.length - (j + 1), by omega, rfl, j + 1, rfl, by omega, by omega, fun t h1 h2 => ?_, rfl⟩
                    rcases Nat.lt_or_ge (i + 1 + t) j with h3 | h3
                    · exact hj3 t h1 h3
                    · have : t = j - (i + 1) := by omega
                      rw [this, hrj]
                      simpa using e93
                  · have e93 : pat.getD j 0 = 93 := one_of e (by decide +kernel)
                    repeat walk_at "v1"
                    refine ⟨rfl, j, rfl, .inr ⟨j - (i + 1), bracket_of (by rw [hrj, e93]) (by omega) fun t h1 h2 => hj3 t h1 (by omega), by omega⟩⟩
                · repeat walk_at "v1"
                  refine ⟨rfl, j, rfl, .inl ⟨bracket_no fun t h1 q => ?_, by omega⟩⟩
                  have := (List.getElem?_eq_some_iff.mp q).1
                  exact hj3 t h1 (by omega) q
              rintro m1 _ ⟨rfl, j, rfl, hj⟩
              repeat walk_at "v1"
              refine ite_dec (fun hge => ?_) (fun hlt => ?_)
              · have hbn : bracket r = none := by
                  rcases hj with ⟨h1, _⟩ | ⟨L, h1, h2⟩
                  · exact h1
                  · have := (bracket_lt h1).1
                    omega
                rw [hbn] at hrun
                repeat walk_at "v1"
                refine ⟨ba, ra, rfl, ?_⟩
                repeat walk_at "v1"
                rw [show (Str.ofString "\\[").cps.toList = [92, 91] from by decide +kernel]
                refine ⟨hB, _, hH, hrl16, ?_⟩
                repeat walk_at "v1"
                exact more (.txt [92, 91]) _ _ x9 H1 (i + 1) Ext.refl (Nat.lt_succ_self i) hlt' hrun
              · obtain ⟨L, hL, rfl⟩ : ∃ L, bracket r = some L ∧ j = i + 1 + L := by
                  rcases hj with ⟨_, h2⟩ | h
                  · omega
                  · exact h
                obtain ⟨g1, g2, g3, g4⟩ := bracket_lt hL
                obtain ⟨q1, q2, q3, q4, q5, q6⟩ := hset L hci hL
                rw [hL] at hrun
                dsimp only at hrun
                have hslc : slc pat (some ((i + 1 : Nat) : Int)) (some ((i + 1 + L : Nat) : Int)) = r.take L := by
                  unfold slc
                  simp only [Option.elim, clipAt_nat]
                  rw [Nat.min_eq_left (by omega), Nat.min_eq_left (by omega), hr]
                  congr 1
                  omega
                have hstl : (r.take L).length ≤ 1000 := Nat.le_trans (List.length_take_le' _ _) (hrl ▸ Nat.le_trans (Nat.sub_le _ _) hl)
                generalize r.take L = st at *
                have hst16 : st.length ≤ 16777216 := Nat.le_trans hstl (by decide)
                have hst1 : ∀ n, n ≤ 100 → n + st.length ≤ 16777216 := fun n h => Nat.le_trans (Nat.add_le_add h hstl) (by decide)
                have hL1 : i < i + 1 + L + 1 := by omega
                have hL2 : i + 1 + L + 1 ≤ pat.length := by omega
                have h45 : (Str.ofString "-").cps.toList = [45] := by decide +kernel
                have h92 : (Str.ofString "\\").cps.toList = [92] := by decide +kernel
                have hTre : ∀ s R m H, Sim C' R m H s → s.TypeIs (.ref 43) "re.Pattern" ∧ ∃ ob, s.heap.get? 43 = some ob ∧ ob.dict = none := fun s R m H S => by
                  obtain ⟨mr, news, S⟩ := S
                  obtain ⟨y, t, u, e⟩ := F'.o43
                  have := S.fr.keep _ _ (O'.kin _ _ e)
                  exact ⟨⟨_, this, rfl⟩, _, this, rfl⟩
                repeat walk_at "v1"
                refine slc_str hp16 ?_
                rw [hslc]
                repeat walk_at "v1"
                rw [h45]
                refine cmp_notInS _ ?_
                rw [decide_eq_false q2]
                refine ite_T ?_
                repeat walk_at "v1"
                refine ev_method "str" "str.replace" PySem.F.plainAttrs_str PySem.F.slot_str_replace PySem.F.type_str_replace ?_ (by with_unfolding_all rfl) (by with_unfolding_all rfl) (by intro _; with_unfolding_all rfl) (by simp)
                repeat walk_at "v1"
                refine ⟨rfl, ?_⟩
                repeat walk_at "v1"
                rw [h92]
                refine ca_replace0 q3 ?_
                repeat walk_at "v1"
                refine ev_methodK 43 "re.Pattern" "re.Pattern.sub" hTre plainAttrs_re slot_re_sub type_re_sub ?_ (by with_unfolding_all rfl) (by with_unfolding_all rfl) (by intro _; with_unfolding_all rfl) (by simp)
                refine nm_K O' (by assumption) F'.n_re ?_
                refine ⟨rfl, ?_⟩
                walk_at "v1"
                refine ev_lambda O' F' hcode (hE.2.1 htab) (fun fa o H2 hfo hfc hE2 => ?_) (by rw [henv]; kernel_rfl) (by rw [henv]; kernel_rfl)
                repeat walk_at "v1"
                refine ca_sub O' F' hfo hfc q1 q4 (by omega) ?_
                repeat walk_at "v1"
                refine tr_str hst16 ?_
                rw [decide_eq_true q4]
                show IfQ _ _ _ _ _ false _
                refine ite_F ?_
                repeat walk_at "v1"
                have hpos : 0 < st.length := List.length_pos_iff.mpr q4
                have hst0 : st[0]? = some (st.getD 0 0) := by rw [List.getD, List.getElem?_eq_getElem hpos]; rfl
                obtain ⟨d, hd⟩ : ∃ d, st.getD 0 0 = d := ⟨_, rfl⟩
                rw [hd] at hst0
                rw [hst0] at q5 q6
                refine ite_eqS (fun e => ?_) (fun _ => ?_)
                · rw [show (Str.ofString "!").cps.toList = [33] from by decide +kernel] at e
                  rw [e] at hst0
                  simp at hst0
                  exact absurd (by rw [hst0]) q5
                · repeat walk_at "v1"
                  refine sub_str (by decide) (Int.ofNat_lt.mpr hpos) hst16 ?_
                  rw [show ((0 : Int)).toNat = 0 from rfl, hd]
                  repeat walk_at "v1"
                  refine ite_eqS (fun e => ?_) (fun _ => ?_)
                  · exact absurd (by rw [one_of (k := 33) e (by decide +kernel)]) q5
                  · repeat walk_at "v1"
                    refine sub_str (by decide) (Int.ofNat_lt.mpr hpos) hst16 ?_
                    rw [show ((0 : Int)).toNat = 0 from rfl, hd]
                    repeat walk_at "v1"
                    refine ⟨by simp, fun ta hta => ?_⟩
                    rw [show (Str.ofString "^").cps.toList = [94] from by decide +kernel, show (Str.ofString "[").cps.toList = [91] from by decide +kernel]
                    refine cmp_inT (ys := [[94], [91]]) set_self ?_
                    have hraX : (H2.set ta (.tuple [.str [94], .str [91]])) ra = some (.list (res.map (Part.pv sa))) := set_old hta (hE2.1 _ _ hr64 hH)
                    have hbaX : (H2.set ta (.tuple [.str [94], .str [91]])) ba = some (.raw (boundApp ra)) := set_old hta (hE2.1 _ _ hb64 hB)
                    have hEX : Ext H1 (H2.set ta (.tuple [.str [94], .str [91]])) := Ext.trans hE2 (Ext.set hta)
                    have hl1 : (Str.ofString "[").cps.toList = [91] := by decide +kernel
                    have hl2 : (Str.ofString "]").cps.toList = [93] := by decide +kernel
                    by_cases h91' : d = 91
                    · subst h91'
                      have ht : [] ++ [91] ++ ([92] ++ st) ++ [93] = setText st := by
                        unfold setText
                        rw [if_pos hst0]
                        simp
                      refine ite_bT (by decide) ?_
                      repeat walk_at "v1"
                      rw [h92]
                      refine bin_addS (hst1 _ (Nat.le_of_ble_eq_true rfl)) ?_
                      repeat walk_at "v1"
                      refine ⟨ba, ra, rfl, ?_⟩
                      repeat walk_at "v1"
                      rw [hl1]
                      refine ⟨_, rfl, by simp, ?_⟩
                      repeat walk_at "v1"
                      refine ⟨_, rfl, by simp; omega, ?_⟩
                      refine ⟨_, rfl, by simp; omega, ?_⟩
                      repeat walk_at "v1"
                      rw [hl2]
                      refine ⟨_, rfl, by simp; omega, ?_⟩
                      refine jo_nil (by simp; omega) ?_
                      refine ⟨hbaX, _, hraX, hrl16, ?_⟩
                      repeat walk_at "v1"
                      rw [ht]
                      exact more (.txt (setText st)) _ _ _ _ (i + 1 + L + 1) hEX hL1 hL2 hrun
                    · have h94' : d ≠ 94 := fun e => q6 (by rw [e])
                      have ht : [] ++ [91] ++ st ++ [93] = setText st := by
                        unfold setText
                        rw [if_neg (by rw [hst0]; simpa using h91')]
                        simp
                      refine ite_bF (by simp; exact ⟨fun e => h94' e.symm, fun e => h91' e.symm⟩) ?_
                      repeat walk_at "v1"
                      refine ⟨ba, ra, rfl, ?_⟩
                      repeat walk_at "v1"
                      rw [hl1]
                      refine ⟨_, rfl, by simp, ?_⟩
                      repeat walk_at "v1"
                      refine ⟨_, rfl, by omega, ?_⟩
                      refine ⟨_, rfl, by simp; omega, ?_⟩
                      repeat walk_at "v1"
                      rw [hl2]
                      refine ⟨_, rfl, by simp; omega, ?_⟩
                      refine jo_nil (by simp; omega) ?_
                      refine ⟨hbaX, _, hraX, hrl16, ?_⟩
                      repeat walk_at "v1"
                      rw [ht]
                      exact more (.txt (setText st)) _ _ _ _ (i + 1 + L + 1) hEX hL1 hL2 hrun
            · have h91 : c ≠ 91 := not_one hn91 (by decide +kernel)
              rw [if_neg h91] at hrun
              repeat walk_at "v1"
              refine ⟨ba, ra, rfl, ?_⟩
              repeat walk_at "v1"
              refine spec_escape O' F' hr' hc128 ?_
              refine ⟨hB, _, hH, hrl16, ?_⟩
              repeat walk_at "v1"
              exact more (.txt (escOf c)) _ x8 x9 H1 (i + 1) Ext.refl (Nat.lt_succ_self i) hlt' hrun
    · have hin' : i = pat.length := by omega
      have hfin : trRun pat f i res = res := by
        cases f with
        | zero => rfl
        | succ f => rw [trRun, if_neg (by omega)]
      rw [hfin] at hrun
      repeat walk_at "v2"
      refine ⟨by rw [hin']; simp, ?_⟩
      repeat walk_at "v2"
      exact h _ ra hE hra (hrun ▸ hH)
noncomputable def tx : List Part → List Nat
  | .txt l :: r => l ++ tx r
  | _ => []
noncomputable def rsP : List Part → List Part
  | .txt _ :: r => rsP r
  | l => l
noncomputable def jt : Nat → List Part → List Nat
  | f + 1, .star :: r => if r = [] then [46, 42] else if rsP r = [] then [46, 42] ++ tx r else [40, 63, 62, 46, 42, 63] ++ tx r ++ [41] ++ jt f (rsP r)
  | _, _ => []
noncomputable def bodyOf (ps : List Part) : List Nat := tx ps ++ jt ps.length (rsP ps)
noncomputable def NoSS : List Part → Prop
  | .star :: .star :: _ => False
  | _ :: r => NoSS r
  | [] => True
theorem drop_some {α : Type} {l : List α} {i : Nat} {x : α} (h : l[i]? = some x) : l.drop i = x :: l.drop (i + 1) := by
  have hl := (List.getElem?_eq_some_iff.mp h)
  obtain ⟨hlt, rfl⟩ := hl
  exact List.drop_eq_getElem_cons hlt
theorem noSS_tail : ∀ {p : Part} {r : List Part}, NoSS (p :: r) → NoSS r
  | .star, .star :: _, h => h.elim
  | .star, [], _ => trivial
  | .star, .txt _ :: _, h => h
  | .txt _, _, h => h
theorem noSS_drop : ∀ {ps : List Part} (i : Nat), NoSS ps → NoSS (ps.drop i)
  | ps, 0, h => h
  | [], i + 1, h => by simp; exact h
  | p :: r, i + 1, h => noSS_drop i (noSS_tail h)
set_option maxHeartbeats 8000000 in
theorem spec_join {C : Cx} {m : Loc} {H : PH} {Q : PV → PH → Prop} (O : C.Ok) (F : KF C.K) (hr : C.A.depth < recursionLimit) {ps : List Part} {sa ia : Addr} (hia : H ia = some (.list (ps.map (Part.pv sa)))) (hi64 : ia ≠ 64) (hss : NoSS ps) (hl : ps.length ≤ 1000) (hbl : (bodyOf ps).length ≤ 100000)
    (h : ∀ H', Ext H H' → Q (.str ([40, 63, 115, 58] ++ bodyOf ps ++ [41, 92, 90])) H') : Ca C m (.ref 76) [.ref ia, .ref sa] [] H Q := by
  refine call_fn O (by omega) [(Str.ofString "inp", .ref ia), (Str.ofString "STAR", .ref sa)] F.f10.at_ F.f10.code ?_ (loc_of (by kernel_rfl)) (by decide +kernel) (by decide +kernel) (by decide +kernel) (by kernel_rfl) (by kernel_rfl) (by kernel_rfl) ?_
  · intro s vs ks X hv hk
    obtain ⟨v, w, rfl, hv', hw'⟩ := args2 hv
    cases kws0 hk
    exact ⟨[(Str.ofString "inp", v), (Str.ofString "STAR", w)], BindsTo.of_eq (by kernel_rfl), by simp [hv', hw']⟩
  · intro C' K
    obtain ⟨L', henv⟩ := K.env
    have n0 : C'.env.scope.names[0]? = some (Str.ofString "inp", NameKind.local) := by rw [K.scope]; rfl
    have w0 : Slot' C' (Str.ofString "inp") 0 := .inl n0
    have n1 : C'.env.scope.names[1]? = some (Str.ofString "STAR", NameKind.local) := by rw [K.scope]; rfl
    have w1 : Slot' C' (Str.ofString "STAR") 1 := .inl n1
    have n2 : C'.env.scope.names[2]? = some (Str.ofString "res", NameKind.local) := by rw [K.scope]; rfl
    have w2 : Slot' C' (Str.ofString "res") 2 := .inl n2
    have n3 : C'.env.scope.names[3]? = some (Str.ofString "add", NameKind.local) := by rw [K.scope]; rfl
    have w3 : Slot' C' (Str.ofString "add") 3 := .inl n3
    have n4 : C'.env.scope.names[4]? = some (Str.ofString "i", NameKind.local) := by rw [K.scope]; rfl
    have w4 : Slot' C' (Str.ofString "i") 4 := .inl n4
    have n5 : C'.env.scope.names[5]? = some (Str.ofString "n", NameKind.local) := by rw [K.scope]; rfl
    have w5 : Slot' C' (Str.ofString "n") 5 := .inl n5
    have n6 : C'.env.scope.names[6]? = some (Str.ofString "fixed", NameKind.local) := by rw [K.scope]; rfl
    have w6 : Slot' C' (Str.ofString "fixed") 6 := .inl n6
    have g7 : C'.env.kindOf (Str.ofString "len") = some .globalImplicit := kind_is K.scope (by kernel_rfl)
    have O' := K.ok
    have F' := K.kf F
    have hin := inter_of O'
    have b7 := is_len O' F' g7
    rw [show initLoc (scopeN 10).names [(Str.ofString "inp", PV.ref ia), (Str.ofString "STAR", .ref sa)].reverse = [some (.ref ia), some (.ref sa), none, none, none, none, none, none] by kernel_rfl]
    refine exs_letm ?_
    intro M0
    refine exs_cons ?_
    repeat walk_at "v2"
    refine ⟨by simp, fun ra hra => ?_⟩
    repeat walk_at "v2"
    refine ev_bound ?_ (by intro _; with_unfolding_all rfl) (by intro _ _; with_unfolding_all rfl)
    repeat walk_at "v2"
    refine ⟨ra, _, rfl, set_self, fun ba hba => ?_⟩
    repeat walk_at "v2"
    refine ex_swp2 O' w4 w5 ?_ (by with_unfolding_all rfl) (by rw [henv]; kernel_rfl)
    repeat walk_at "v2"
    refine ca_len_list (set_old hba (set_old hra hia)) (by rw [List.length_map]; omega) ?_
    rw [List.length_map]
    repeat walk_at "v2"
    refine ⟨by simp, fun ta hta => ⟨ta, _, _, rfl, set_self, ?_⟩⟩
    have hE0 : Ext H (((H.set ra (.list [])).set ba (.raw (boundApp ra))).set ta (.tuple [.int 0, .int ps.length])) := Ext.trans (Ext.set hra) (Ext.trans (Ext.set hba) (Ext.set hta))
    have hra0 : (((H.set ra (.list [])).set ba (.raw (boundApp ra))).set ta (.tuple [.int 0, .int ps.length])) ra = some (.list []) := set_old hta (set_old hba set_self)
    have hba0 : (((H.set ra (.list [])).set ba (.raw (boundApp ra))).set ta (.tuple [.int 0, .int ps.length])) ba = some (.raw (boundApp ra)) := set_old hta set_self
    have hia0 : (((H.set ra (.list [])).set ba (.raw (boundApp ra))).set ta (.tuple [.int 0, .int ps.length])) ia = some (.list (ps.map (Part.pv sa))) := set_old hta (set_old hba (set_old hra hia))
    have hHba : H ba = none := by
      have hne : ba ≠ ra := fun e => by rw [e, set_self] at hba; cases hba
      rw [set_other hne] at hba; exact hba
    generalize (((H.set ra (.list [])).set ba (.raw (boundApp ra))).set ta (.tuple [.int 0, .int ps.length])) = H0 at hE0 hra0 hba0 hia0 ⊢
    have hbr : ba ≠ ra := fun e => by rw [e, hra0] at hba0; cases hba0
    have hir : ia ≠ ra := fun e => by rw [e, hra] at hia; cases hia
    -- one piece more
    have hp16 : (ps.map (Part.pv sa)).length ≤ 16777216 := by rw [List.length_map]; exact Nat.le_trans hl (by decide)
    have h63 : ∀ {i : Nat}, i < ps.length → (i : Int) < 2 ^ 63 := fun h => Int.lt_of_lt_of_le (Int.ofNat_lt.mpr (Nat.lt_of_lt_of_le h hl)) (by decide)
    have hpc : ∀ {i n : Nat} {pcs : List (List Nat)}, i ≤ ps.length → pcs.length ≤ 2 * i + n → n ≤ 100 → (pcs.map PV.str).length ≤ 16777215 := by
      intro i n pcs h1 h2 h3
      rw [List.length_map]
      omega
    let M : Option PV → Option PV → Loc := fun i x6 => [some (.ref ia), some (.ref sa), some (.ref ra), some (.ref ba), i, some (.int ps.length), x6, none]
    let St := fun (i : Nat) (pcs : List (List Nat)) (x6 : Option PV) (m1 : Loc) (H1 : PH) => m1 = M (some (.int i)) x6 ∧
      H1 ra = some (.list (pcs.map .str)) ∧ H1 ba = some (.raw (boundApp ra)) ∧ H1 ia = some (.list (ps.map (Part.pv sa))) ∧ Ext H H1 ∧ i ≤ ps.length ∧ pcs.length ≤ 2 * i + 2
    let Jv1 : Loc → PH → Prop := fun m1 H1 => ∃ i pcs, St i pcs none m1 H1 ∧ pcs.flatten ++ jt ps.length (ps.drop i) = bodyOf ps ∧ rsP (ps.drop i) = ps.drop i
    refine exs_step Jv1 ?_ ?_
    · let Jv2 : Nat → Loc → PH → Prop := fun k m1 H1 => ∃ i pcs, St i pcs none m1 H1 ∧ pcs.flatten ++ (tx (ps.drop i) ++ jt ps.length (rsP (ps.drop i))) = bodyOf ps ∧ k = ps.length - i
      refine ex_while O' Jv2 ps.length ⟨0, [], ⟨rfl, hra0, hba0, hia0, hE0, by omega, by simp⟩, rfl, rfl⟩ ?_
      rintro k m1 H1 ⟨i, pcs, ⟨rfl, hH, hB, hI, hE, hi, hpl⟩, heq, rfl⟩
      repeat walk_at "v1"
      refine ite_dec (fun hlt => ?_) (fun hge => ?_)
      · have hlt' : i < ps.length := Int.ofNat_lt.mp hlt
        have hd := drop_some (List.getElem?_eq_getElem hlt')
        repeat walk_at "v1"
        have hz : (ps.map (Part.pv sa))[((i : Int)).toNat]? = some ((ps[i]).pv sa) := by rw [Int.toNat_natCast, List.getElem?_map, List.getElem?_eq_getElem hlt']; rfl
        generalize hpi : ps[i] = p at hd hz
        refine sub_list hI (Int.natCast_nonneg _) (h63 hlt') hz ?_
        repeat walk_at "v1"
        cases p with
        | star =>
          refine cmp_isNot_self ?_
          repeat walk_at "v2"
          refine ⟨i, pcs, ⟨rfl, hH, hB, hI, hE, hi, hpl⟩, ?_, ?_⟩
          · rw [hd] at heq ⊢; exact heq
          · rw [hd]; rfl
        | txt l =>
          refine cmp_isNot (bb := false) (by constructor) ?_
          show AndQ _ _ _ _ true _
          repeat walk_at "v1"
          refine ⟨ba, ra, rfl, ?_⟩
          repeat walk_at "v1"
          refine sub_list hI (Int.natCast_nonneg _) (h63 hlt') hz ?_
          refine ⟨hB, _, hH, Nat.le_succ_of_le (hpc hi hpl (by decide)), ?_⟩
          repeat walk_at "v1"
          refine ⟨ps.length - (i + 1), Nat.sub_lt_sub_left hlt' (Nat.lt_succ_self i), i + 1, pcs ++ [l], ⟨rfl, ?_, ?_, ?_, Ext.mut hra hE, by omega, ?_⟩, ?_, rfl⟩
          · rw [set_self, List.map_append]; rfl
          · rw [set_other hbr]; exact hB
          · rw [set_other hir]; exact hI
          · rw [List.length_append]; simp; omega
          · rw [← heq, hd]
            simp [tx, rsP]
      · have : ps.drop i = [] := List.drop_eq_nil_of_le (by omega)
        repeat walk_at "v1"
        refine ⟨i, pcs, ⟨rfl, hH, hB, hI, hE, hi, hpl⟩, ?_, ?_⟩
        · rw [this] at heq ⊢; exact heq
        · rw [this]; rfl
    · rintro m1 H1 ⟨i, pcs, ⟨rfl, hH, hB, hI, hE, hi, hpl⟩, heq, hrs⟩
      let Jv3 : Loc → PH → Prop := fun m1 H1 => ∃ (pcs : List (List Nat)) (x6 : Option PV), m1 = M (some (.int ps.length)) x6 ∧ H1 ra = some (.list (pcs.map .str)) ∧ Ext H H1 ∧ pcs.flatten = bodyOf ps
      refine exs_step Jv3 ?_ ?_
      · let Jv4 : Nat → Loc → PH → Prop := fun k m1 H1 => ∃ i f pcs x6, St i pcs x6 m1 H1 ∧ pcs.flatten ++ jt f (ps.drop i) = bodyOf ps ∧ rsP (ps.drop i) = ps.drop i ∧ k = ps.length - i ∧ ps.length - i ≤ f
        refine ex_while O' Jv4 (ps.length - i) ⟨i, ps.length, pcs, none, ⟨rfl, hH, hB, hI, hE, hi, hpl⟩, heq, hrs, rfl, by omega⟩ ?_
        clear hH hB hI hE hi hpl heq hrs
        rintro k m1 H1 ⟨i, f, pcs, x6, ⟨rfl, hH, hB, hI, hE, hi, hpl⟩, heq, hrs, rfl, hf⟩
        repeat walk_at "v1"
        refine ite_dec (fun hlt => ?_) (fun hge => ?_)
        · have hlt' : i < ps.length := Int.ofNat_lt.mp hlt
          have hd := drop_some (List.getElem?_eq_getElem hlt')
          have hz : (ps.map (Part.pv sa))[((i : Int)).toNat]? = some ((ps[i]).pv sa) := by rw [Int.toNat_natCast, List.getElem?_map, List.getElem?_eq_getElem hlt']; rfl
          generalize hpi : ps[i] = p at hd hz
          cases p with
          | txt l =>
            rw [hd] at hrs
            exfalso
            have hlen : (rsP (ps.drop (i + 1))).length ≤ (ps.drop (i + 1)).length := by
              generalize ps.drop (i + 1) = r
              induction r with
              | nil => exact Nat.le_refl _
              | cons p r ih => cases p with
                | star => exact Nat.le_refl _
                | txt l => exact Nat.le_succ_of_le ih
            have : rsP (ps.drop (i + 1)) = .txt l :: ps.drop (i + 1) := hrs
            rw [this, List.length_cons] at hlen
            omega
          | star =>
            refine exs_cons ?_
            repeat walk_at "vx"
            refine sub_list hI (Int.natCast_nonneg _) (h63 hlt') hz ?_
            repeat walk_at "vx"
            refine cmp_is_self ?_
            refine ⟨rfl, ?_⟩
            repeat walk_at "v1"
            refine ite_eqI (fun hn => ?_) (fun hn => ?_)
            · have hin' : i + 1 = ps.length := by omega
              have hdn : ps.drop (i + 1) = [] := List.drop_eq_nil_of_le (by omega)
              repeat walk_at "v1"
              refine ⟨ba, ra, rfl, ?_⟩
              repeat walk_at "v1"
              rw [show (Str.ofString ".*").cps.toList = [46, 42] from by decide +kernel]
              refine ⟨hB, _, hH, Nat.le_succ_of_le (hpc hi hpl (by decide)), ?_⟩
              repeat walk_at "v1"
              refine ⟨pcs ++ [[46, 42]], x6, ?_, ?_, Ext.mut hra hE, ?_⟩
              · rw [← hin']; rfl
              · rw [set_self, List.map_append]; rfl
              · cases f with
                | zero => omega
                | succ f =>
                  rw [← heq, hd, hdn]
                  simp [jt]
            · have hlt2 : i + 1 < ps.length := by omega
              have hd2 := drop_some (List.getElem?_eq_getElem hlt2)
              have hz2 : (ps.map (Part.pv sa))[(((i + 1 : Nat) : Int)).toNat]? = some ((ps[i + 1]).pv sa) := by rw [Int.toNat_natCast, List.getElem?_map, List.getElem?_eq_getElem hlt2]; rfl
              generalize hpi2 : ps[i + 1] = p2 at hd2 hz2
              have hss2 := noSS_drop i hss
              rw [hd, hd2] at hss2
              cases p2 with
              | star => exact hss2.elim
              | txt l2 =>
                cases f with
                | zero => omega
                | succ f =>
                  rw [hd] at heq
                  have hrne : ps.drop (i + 1) ≠ [] := by rw [hd2]; simp
                  rw [jt, if_neg hrne] at heq
                  generalize hr' : ps.drop (i + 1) = r at heq hrne
                  repeat walk_at "v1"
                  refine sub_list hI (by omega) (h63 hlt2) hz2 ?_
                  repeat walk_at "v1"
                  refine cmp_isNot (by constructor) ?_
                  refine ⟨rfl, ?_⟩
                  repeat walk_at "v1"
                  refine ⟨by simp, fun fa hfa => ?_⟩
                  have hH0 : (H1.set fa (.list [])) ra = some (.list (pcs.map .str)) := set_old hfa hH
                  have hB0 : (H1.set fa (.list [])) ba = some (.raw (boundApp ra)) := set_old hfa hB
                  have hI0 : (H1.set fa (.list [])) ia = some (.list (ps.map (Part.pv sa))) := set_old hfa hI
                  have hF0 : (H1.set fa (.list [])) fa = some (.list []) := set_self
                  have hE0' : Ext H (H1.set fa (.list [])) := Ext.trans hE (Ext.set hfa)
                  have hHfa : H fa = none := hE.gone hfa
                  have hfr : ra ≠ fa := fun e => by rw [← e, hH] at hfa; cases hfa
                  have hfb : ba ≠ fa := fun e => by rw [← e, hB] at hfa; cases hfa
                  have hfi : ia ≠ fa := fun e => by rw [← e, hI] at hfa; cases hfa
                  generalize H1.set fa (.list []) = H2 at hH0 hB0 hI0 hF0 hE0' ⊢
                  have htxl : (tx r).length ≤ 100000 := by
                    have h1 := congrArg List.length heq
                    rw [List.length_append] at h1
                    split at h1
                    · rw [List.length_append] at h1; omega
                    · simp only [List.length_append] at h1; omega
                  let Jv5 : Loc → PH → Prop := fun m1 H3 => ∃ (j : Nat) (fx : List (List Nat)), m1 = M (some (.int j)) (some (.ref fa)) ∧
                    H3 fa = some (.list (fx.map .str)) ∧ H3 ra = some (.list (pcs.map .str)) ∧ H3 ba = some (.raw (boundApp ra)) ∧ H3 ia = some (.list (ps.map (Part.pv sa))) ∧ Ext H H3 ∧ i + 1 ≤ j ∧ j ≤ ps.length ∧ fx.length ≤ j ∧ fx.flatten = tx r ∧ ps.drop j = rsP r
                  refine exs_step Jv5 ?_ ?_
                  · let Jv6 : Nat → Loc → PH → Prop := fun k m1 H3 => ∃ (j : Nat) (fx : List (List Nat)), m1 = M (some (.int j)) (some (.ref fa)) ∧
                      H3 fa = some (.list (fx.map .str)) ∧ H3 ra = some (.list (pcs.map .str)) ∧ H3 ba = some (.raw (boundApp ra)) ∧ H3 ia = some (.list (ps.map (Part.pv sa))) ∧ Ext H H3 ∧ i + 1 ≤ j ∧ j ≤ ps.length ∧ fx.length ≤ j ∧ fx.flatten ++ tx (ps.drop j) = tx r ∧ rsP (ps.drop j) = rsP r ∧ k = ps.length - j
                    refine ex_while O' Jv6 (ps.length - (i + 1))
                      ⟨i + 1, [], rfl, hF0, hH0, hB0, hI0, hE0', Nat.le_refl _, by omega, by simp, by rw [hr']; rfl, by rw [hr'], rfl⟩ ?_
                    rintro k m1 H3 ⟨j, fx, rfl, hF, hH3, hB3, hI3, hE3, hj1, hj2, hfl, hft, hfr2, rfl⟩
                    repeat walk_at "v1"
                    refine ite_dec (fun hlt3 => ?_) (fun hge3 => ?_)
                    · have hlt3' : j < ps.length := Int.ofNat_lt.mp hlt3
                      have hd3 := drop_some (List.getElem?_eq_getElem hlt3')
                      have hz3 : (ps.map (Part.pv sa))[((j : Int)).toNat]? = some ((ps[j]).pv sa) := by rw [Int.toNat_natCast, List.getElem?_map, List.getElem?_eq_getElem hlt3']; rfl
                      generalize hpi3 : ps[j] = p3 at hd3 hz3
                      repeat walk_at "v1"
                      refine sub_list hI3 (Int.natCast_nonneg _) (h63 hlt3') hz3 ?_
                      repeat walk_at "v1"
                      cases p3 with
                      | star =>
                        refine cmp_isNot_self ?_
                        repeat walk_at "v2"
                        rw [hd3] at hft hfr2
                        refine ⟨j, fx, rfl, hF, hH3, hB3, hI3, hE3, hj1, hj2, hfl, by simpa [tx] using hft, ?_⟩
                        rw [hd3]; exact hfr2
                      | txt l3 =>
                        refine cmp_isNot (bb := false) (by constructor) ?_
                        show AndQ _ _ _ _ true _
                        repeat walk_at "v1"
                        refine ⟨fa, rfl, ⟨_, hF⟩, ?_⟩
                        repeat walk_at "v1"
                        refine sub_list hI3 (Int.natCast_nonneg _) (h63 hlt3') hz3 ?_
                        refine ⟨_, hF, by rw [List.length_map]; omega, ?_⟩
                        repeat walk_at "v1"
                        rw [hd3] at hft hfr2
                        refine ⟨ps.length - (j + 1), Nat.sub_lt_sub_left hlt3' (Nat.lt_succ_self j), j + 1, fx ++ [l3], rfl, ?_, ?_, ?_, ?_, Ext.mut hHfa hE3, by omega, by omega, ?_, ?_, hfr2, rfl⟩
                        · rw [set_self, List.map_append]; rfl
                        · rw [set_other hfr]; exact hH3
                        · rw [set_other hfb]; exact hB3
                        · rw [set_other hfi]; exact hI3
                        · rw [List.length_append]; simp; omega
                        · rw [← hft]; simp [tx]
                    · have hdn : ps.drop j = [] := List.drop_eq_nil_of_le (by omega)
                      rw [hdn] at hft hfr2
                      repeat walk_at "v1"
                      refine ⟨j, fx, rfl, hF, hH3, hB3, hI3, hE3, hj1, hj2, hfl, by simpa [tx] using hft, ?_⟩
                      rw [hdn]; exact hfr2
                  · rintro m1 H3 ⟨j, fx, rfl, hF, hH3, hB3, hI3, hE3, hj1, hj2, hfl, hft, hdj⟩
                    have hsum : (fx.map (·.length)).sum = (tx r).length := by rw [← hft, List.length_flatten]
                    refine exs_cons ?_
                    repeat walk_at "v1"
                    refine ev_method "str" "str.join" PySem.F.plainAttrs_str PySem.F.slot_str_join PySem.F.type_str_join ?_ (by with_unfolding_all rfl) (by with_unfolding_all rfl) (by intro _; with_unfolding_all rfl) (by simp)
                    repeat walk_at "v1"
                    refine ⟨rfl, ?_⟩
                    repeat walk_at "v1"
                    rw [show (Str.ofString "").cps.toList = [] from by decide +kernel]
                    refine ca_join hF (by omega) ?_
                    rw [hft]
                    repeat walk_at "v1"
                    have hnb : ∀ {H4 : PH} {po : PO}, (H4.set ra po) ba = H4 ba := fun {H4 po} => set_other hbr
                    have hni : ∀ {H4 : PH} {po : PO}, (H4.set ra po) ia = H4 ia := fun {H4 po} => set_other hir
                    have hrsj : rsP (ps.drop j) = ps.drop j := by
                      rw [hdj]
                      generalize r = q
                      induction q with
                      | nil => rfl
                      | cons p q ih => cases p with
                        | star => rfl
                        | txt l => exact ih
                    have hjf : ps.length - j ≤ f := by clear hsum hfl hpl hn; omega
                    refine ite_eqI (fun hjn => ?_) (fun hjn => ?_)
                    · have hjn' : j = ps.length := by omega
                      have hrs0 : rsP r = [] := by rw [← hdj]; exact List.drop_eq_nil_of_le (by omega)
                      rw [if_pos hrs0] at heq
                      repeat walk_at "v1"
                      refine ⟨ba, ra, rfl, ?_⟩
                      repeat walk_at "v1"
                      rw [show (Str.ofString ".*").cps.toList = [46, 42] from by decide +kernel]
                      refine ⟨hB3, _, hH3, Nat.le_succ_of_le (hpc hi hpl (by decide)), ?_⟩
                      repeat walk_at "v1"
                      refine ⟨ba, ra, rfl, ?_⟩
                      repeat walk_at "v1"
                      refine ⟨by rw [hnb]; exact hB3, _, set_self, by rw [List.length_append, List.length_map]; simp; omega, ?_⟩
                      repeat walk_at "v1"
                      refine ⟨ps.length - j, Nat.sub_lt_sub_left hlt' hj1, j, f, pcs ++ [[46, 42]] ++ [tx r], some (.str (tx r)), ⟨rfl, ?_, ?_, ?_, Ext.mut hra (Ext.mut hra hE3), hj2, ?_⟩, ?_, hrsj, rfl, hjf⟩
                      · rw [set_self, List.map_append, List.map_append]; rfl
                      · rw [hnb, hnb]; exact hB3
                      · rw [hni, hni]; exact hI3
                      · simp; omega
                      · rw [hdj, hrs0, ← heq]
                        cases f <;> simp [jt]
                    · have hjn' : j < ps.length := by omega
                      have hrs0 : rsP r ≠ [] := by rw [← hdj]; simp; omega
                      rw [if_neg hrs0] at heq
                      repeat walk_at "v1"
                      refine ⟨ba, ra, rfl, ?_⟩
                      repeat walk_at "v1"
                      rw [show (Str.ofString "(?>.*?").cps.toList = [40, 63, 62, 46, 42, 63] from by decide +kernel]
                      refine ⟨_, rfl, by simp, ?_⟩
                      repeat walk_at "v1"
                      refine ⟨_, rfl, by omega, ?_⟩
                      refine ⟨_, rfl, by simp; omega, ?_⟩
                      repeat walk_at "v1"
                      rw [show (Str.ofString ")").cps.toList = [41] from by decide +kernel]
                      refine ⟨_, rfl, by simp; omega, ?_⟩
                      refine jo_nil (by simp; omega) ?_
                      refine ⟨hB3, _, hH3, Nat.le_succ_of_le (hpc hi hpl (by decide)), ?_⟩
                      repeat walk_at "v1"
                      refine ⟨ps.length - j, Nat.sub_lt_sub_left hlt' hj1, j, f, pcs ++ [[] ++ [40, 63, 62, 46, 42, 63] ++ tx r ++ [41]], some (.str (tx r)), ⟨rfl, ?_, ?_, ?_, Ext.mut hra hE3, hj2, ?_⟩, ?_, hrsj, rfl, hjf⟩
                      · rw [set_self, List.map_append]; rfl
                      · rw [hnb]; exact hB3
                      · rw [hni]; exact hI3
                      · simp; omega
                      · rw [hdj, ← heq]
                        simp
        · have hdn : ps.drop i = [] := List.drop_eq_nil_of_le (by omega)
          rw [hdn] at heq
          have hin' : i = ps.length := by omega
          repeat walk_at "v1"
          refine ⟨pcs, x6, by rw [hin'], hH, hE, ?_⟩
          rw [← heq]
          cases f <;> simp [jt]
      · rintro m1 H1 ⟨pcs, x6, rfl, hH, hE, heq⟩
        refine exs_cons ?_
        repeat walk_at "v1"
        refine ⟨by simp, ?_⟩
        repeat walk_at "v1"
        refine ev_method "str" "str.join" PySem.F.plainAttrs_str PySem.F.slot_str_join PySem.F.type_str_join ?_ (by with_unfolding_all rfl) (by with_unfolding_all rfl) (by intro _; with_unfolding_all rfl) (by simp)
        repeat walk_at "v1"
        refine ⟨rfl, ?_⟩
        repeat walk_at "v1"
        rw [show (Str.ofString "").cps.toList = [] from by decide +kernel]
        refine ca_join hH (by rw [← List.length_flatten, heq]; omega) ?_
        rw [heq]
        repeat walk_at "v1"
        rw [show (Str.ofString "(?s:").cps.toList = [40, 63, 115, 58] from by decide +kernel]
        refine ⟨_, rfl, by simp, ?_⟩
        repeat walk_at "v1"
        refine ⟨_, rfl, by omega, ?_⟩
        refine ⟨_, rfl, by simp; omega, ?_⟩
        repeat walk_at "v1"
        rw [show (Str.ofString ")\\Z").cps.toList = [41, 92, 90] from by decide +kernel]
        refine ⟨_, rfl, by simp; omega, ?_⟩
        refine jo_nil (by simp; omega) ?_
        repeat walk_at "v1"
        exact h _ hE
theorem noSS_app {ps : List Part} {p : Part} (h : NoSS ps) (hp : p.isStar = true → (ps.getLast?.map Part.isStar) ≠ some true) : NoSS (ps ++ [p]) := by
  induction ps with
  | nil => cases p <;> trivial
  | cons a r ih =>
    cases r with
    | nil =>
      cases a with
      | txt l => cases p <;> trivial
      | star => cases p with
        | star => exact absurd rfl (hp rfl)
        | txt l => trivial
    | cons b r =>
      have h2 := ih (noSS_tail h) (fun e => by have := hp e; simpa using this)
      cases a with
      | txt l => exact h2
      | star => cases b with
        | star => exact h.elim
        | txt l => exact h2
theorem trRun_noSS (pat : List Nat) : ∀ f i res, NoSS res → NoSS (trRun pat f i res)
  | 0, _, res, h => h
  | f + 1, i, res, h => by
    unfold trRun
    split
    · refine trRun_noSS pat f _ _ ?_
      unfold trStep
      dsimp only
      split
      · split
        · exact h
        · rename_i h1; exact noSS_app h fun _ => h1
      · split
        · exact noSS_app h fun e => by cases e
        · split
          · split
            · exact noSS_app h fun e => by cases e
            · exact noSS_app h fun e => by cases e
          · exact noSS_app h fun e => by cases e
    · exact h
theorem trRun_length (pat : List Nat) : ∀ f i res, (trRun pat f i res).length ≤ res.length + f
  | 0, _, res => Nat.le_refl _
  | f + 1, i, res => by
    unfold trRun
    split
    · have h1 := trRun_length pat f (trStep pat i res).1 (trStep pat i res).2
      have h2 : (trStep pat i res).2.length ≤ res.length + 1 := by
        unfold trStep
        dsimp only
        split
        · split
          · simp
          · simp
        · split
          · simp
          · split
            · split <;> simp
            · simp
      omega
    · omega
noncomputable def transF (pat : List Nat) : List Nat := [40, 63, 115, 58] ++ bodyOf (trAll pat) ++ [41, 92, 90]
theorem spec_translate {C : Cx} {m : Loc} {H : PH} {Q : PV → PH → Prop} (O : C.Ok) (F : KF C.K) (hr : C.A.depth + 2 < recursionLimit) {pat : List Nat} (hp : GoodPat pat) (hl : pat.length ≤ 1000) (hbl : (bodyOf (trAll pat)).length ≤ 100000) (htab : TabOk H)
    (h : ∀ H', Ext H H' → Q (.str (transF pat)) H') : Ca C m (.ref 50) [.str pat] [] H Q := by
  refine call_fn O (by omega) [(Str.ofString "pat", .str pat)] F.f4.at_ F.f4.code ?_ (loc_of (by kernel_rfl)) (by decide +kernel) (by decide +kernel) (by decide +kernel) (by kernel_rfl) (by kernel_rfl) (by kernel_rfl) ?_
  · intro s vs ks X hv hk
    obtain ⟨v, rfl, hv'⟩ := args1 hv
    cases kws0 hk
    exact ⟨[(Str.ofString "pat", v)], BindsTo.of_eq (by kernel_rfl), by simp [hv']⟩
  · intro C' K
    have hr' : C'.A.depth + 1 < recursionLimit := by rw [K.depth]; omega
    have n0 : C'.env.scope.names[0]? = some (Str.ofString "pat", NameKind.local) := by rw [K.scope]; rfl
    have w0 : Slot' C' (Str.ofString "pat") 0 := .inl n0
    have n1 : C'.env.scope.names[1]? = some (Str.ofString "STAR", NameKind.local) := by rw [K.scope]; rfl
    have w1 : Slot' C' (Str.ofString "STAR") 1 := .inl n1
    have n2 : C'.env.scope.names[2]? = some (Str.ofString "parts", NameKind.local) := by rw [K.scope]; rfl
    have w2 : Slot' C' (Str.ofString "parts") 2 := .inl n2
    have g3 : C'.env.kindOf (Str.ofString "object") = some .globalImplicit := kind_is K.scope (by kernel_rfl)
    have g4 : C'.env.kindOf (Str.ofString "_translate") = some .globalImplicit := kind_is K.scope (by kernel_rfl)
    have g5 : C'.env.kindOf (Str.ofString "_join_translated_parts") = some .globalImplicit := kind_is K.scope (by kernel_rfl)
    have O' := K.ok
    have F' := K.kf F
    have hin := inter_of O'
    have b3 := is_object O' F' g3
    have b4 := is_F O' g4 F'.f9 (by decide)
    have q4 := kp_K O' F'.f9.keep
    have b5 := is_F O' g5 F'.f10 (by decide)
    have q5 := kp_K O' F'.f10.keep
    rw [show initLoc (scopeN 4).names [(Str.ofString "pat", PV.str pat)].reverse = [some (.str pat), none, none, none, none, none] by kernel_rfl]
    refine exs_letm ?_
    intro M0
    refine exs_cons ?_
    repeat walk_at "v1"
    refine ca_object fun sa hsa => ?_
    have hs64 : sa ≠ 64 := fun e => by obtain ⟨ps, h1, _⟩ := htab; rw [e, h1] at hsa; cases hsa
    repeat walk_at "v1"
    rw [show (Str.ofString ".").cps.toList = [46] from by decide +kernel]
    refine spec_translate_ O' F' hr' hp hl (tabOk_set hsa htab) ⟨_, set_self, hs64⟩ fun H1 ra hE hra hH1 => ?_
    have hr64 : ra ≠ 64 := fun e => by
      obtain ⟨ps, h1, _⟩ := tabOk_set (po := .raw { cls := .type "object", data := .plain }) hsa htab
      rw [e, h1] at hra; cases hra
    repeat walk_at "v1"
    refine spec_join O' F' (by omega) hH1 hr64 (trRun_noSS pat _ _ _ trivial) (by have := trRun_length pat pat.length 0 []; unfold trAll; simp at this; omega) hbl fun H2 hE2 => ?_
    repeat walk_at "v1"
    exact h _ (Ext.trans (Ext.set hsa) (Ext.trans hE hE2))
noncomputable def marksL : List Nat := [42, 63, 91, 93, 45, 33, 94, 92, 38, 126, 124, 46, 35, 36, 43, 47]
noncomputable def abc62 : List Nat := [65, 66, 67, 68, 69, 70, 71, 72, 73, 74, 75, 76, 77, 78, 79, 80, 81, 82, 83, 84, 85, 86, 87, 88, 89, 90, 97, 98, 99, 100, 101, 102, 103, 104, 105, 106, 107, 108, 109, 110, 111, 112, 113, 114, 115, 116, 117, 118, 119, 120, 121, 122, 48, 49, 50, 51, 52, 53, 54, 55, 56, 57]
noncomputable def pairs4 : List (List Nat) := [[42, 63], [91, 93], [93, 91], [63, 42]]
noncomputable def firstF (n : Int) : Int := (n.fdiv 8).fmod 16
noncomputable def secondF (n : Int) : Int := (firstF n + 1 + (n.fdiv 128).fmod 15).fmod 16
noncomputable def pairF (n : Int) : List Nat := if n.fmod 8 < 4 then pairs4.getD (n.fmod 8).toNat [] else [marksL.getD (firstF n).toNat 0, marksL.getD (secondF n).toNat 0]
noncomputable def alphaF (n : Int) : List Nat := abc62 ++ pairF n
theorem fm (a : Int) {b : Int} (hb : 0 < b) : 0 ≤ a.fmod b ∧ a.fmod b < b := by
  rw [Int.fmod_eq_emod_of_nonneg _ (Int.le_of_lt hb)]
  exact ⟨Int.emod_nonneg _ (by omega), Int.emod_lt_of_pos _ hb⟩
theorem spec_alphabet {C : Cx} {m : Loc} {H : PH} {Q : PV → PH → Prop} (O : C.Ok) (F : KF C.K) (hr : C.A.depth < recursionLimit) {n : Int} (h : ∀ H', Ext H H' → Q (.str (alphaF n)) H') : Ca C m (.ref 164) [.int n] [] H Q := by
  refine call_fn O (by omega) [(Str.ofString "n", .int n)] F.f27.at_ F.f27.code ?_ (loc_of (by kernel_rfl)) (by decide +kernel) (by decide +kernel) (by decide +kernel) (by kernel_rfl) (by kernel_rfl) (by kernel_rfl) ?_
  · intro s vs ks X hv hk
    obtain ⟨v, rfl, hv'⟩ := args1 hv
    cases kws0 hk
    exact ⟨[(Str.ofString "n", v)], BindsTo.of_eq (by kernel_rfl), by simp [hv']⟩
  · intro C' K
    have n0 : C'.env.scope.names[0]? = some (Str.ofString "n", NameKind.local) := by rw [K.scope]; rfl
    have w0 : Slot' C' (Str.ofString "n") 0 := .inl n0
    have n1 : C'.env.scope.names[1]? = some (Str.ofString "marks", NameKind.local) := by rw [K.scope]; rfl
    have w1 : Slot' C' (Str.ofString "marks") 1 := .inl n1
    have n2 : C'.env.scope.names[2]? = some (Str.ofString "first", NameKind.local) := by rw [K.scope]; rfl
    have w2 : Slot' C' (Str.ofString "first") 2 := .inl n2
    have n3 : C'.env.scope.names[3]? = some (Str.ofString "pair", NameKind.local) := by rw [K.scope]; rfl
    have w3 : Slot' C' (Str.ofString "pair") 3 := .inl n3
    have O' := K.ok
    have F' := K.kf F
    have hin := inter_of O'
    rw [show initLoc (scopeN 27).names [(Str.ofString "n", PV.int n)].reverse = [some (.int n), none, none, none] by kernel_rfl]
    refine exs_letm ?_
    intro M0
    have hmk : (Str.ofString "*?[]-!^\\&~|.#$+/").cps.toList = marksL := by decide +kernel
    have hfst := fm (n.fdiv 8) (b := 16) (by decide)
    have hsnd := fm (firstF n + 1 + (n.fdiv 128).fmod 15) (b := 16) (by decide)
    have h8 := fm n (b := 8) (by decide)
    refine exs_cons ?_
    repeat walk_at "v1"
    rw [hmk]
    refine bin_div (by decide) (by decide) ?_
    repeat walk_at "v1"
    refine bin_mod (by decide) ?_
    repeat walk_at "v1"
    refine sub_str hfst.1 hfst.2 (by decide) ?_
    repeat walk_at "v1"
    refine bin_div (by decide) (by decide) ?_
    repeat walk_at "v1"
    refine bin_mod (by decide) ?_
    repeat walk_at "v1"
    refine bin_mod (by decide) ?_
    refine sub_str hsnd.1 hsnd.2 (by decide) ?_
    refine bin_addS (by simp) ?_
    repeat walk_at "v1"
    refine bin_mod (by decide) ?_
    repeat walk_at "v1"
    refine ite_dec (fun hlt => ?_) (fun hge => ?_)
    · repeat walk_at "v1"
      refine ⟨by simp, fun d hd => ?_⟩
      repeat walk_at "v1"
      refine bin_mod (by decide) ?_
      rw [show (Str.ofString "*?").cps.toList = [42, 63] from by decide +kernel, show (Str.ofString "[]").cps.toList = [91, 93] from by decide +kernel, show (Str.ofString "][").cps.toList = [93, 91] from by decide +kernel, show (Str.ofString "?*").cps.toList = [63, 42] from by decide +kernel]
      refine sub_list (xs := pairs4.map .str) (z := .str (pairF n)) set_self h8.1 (by omega) ?_ ?_
      · unfold pairF
        rw [if_pos hlt, List.getElem?_map]
        have : (n.fmod 8).toNat < pairs4.length := by show (n.fmod 8).toNat < 4; omega
        rw [List.getD, List.getElem?_eq_getElem this]
        rfl
      · repeat walk_at "v1"
        rw [show (Str.ofString "ABCDEFGHIJKLMNOPQRSTUVWXYZabcdefghijklmnopqrstuvwxyz0123456789").cps.toList = abc62 from by decide +kernel]
        refine bin_addS ?_ ?_
        · unfold pairF
          rw [if_pos hlt]
          have : ∀ k, (pairs4.getD k []).length ≤ 2 := fun k => by
            rw [List.getD]
            rcases Nat.lt_or_ge k 4 with h | h
            · have : ∀ k, k < 4 → (pairs4[k]?.getD []).length ≤ 2 := by decide
              exact this k h
            · rw [List.getElem?_eq_none (by show 4 ≤ k; exact h)]; simp
          have := this (n.fmod 8).toNat
          have : abc62.length = 62 := rfl
          omega
        · repeat walk_at "v1"
          exact h _ (Ext.set hd)
    · have hp : pairF n = [marksL.getD (firstF n).toNat 0, marksL.getD (secondF n).toNat 0] := if_neg hge
      repeat walk_at "v1"
      rw [show (Str.ofString "ABCDEFGHIJKLMNOPQRSTUVWXYZabcdefghijklmnopqrstuvwxyz0123456789").cps.toList = abc62 from by decide +kernel]
      refine bin_addS (by simp [abc62]) ?_
      repeat walk_at "v1"
      have h' := h _ Ext.refl
      unfold alphaF at h'
      rw [hp] at h'
      exact h'
set_option maxHeartbeats 8000000 in
theorem spec_set {C : Cx} {m : Loc} {H : PH} {Q : PV → PH → Prop} (O : C.Ok) (F : KF C.K) (hr : C.A.depth < recursionLimit) {body piece : List Nat} {at_ k : Nat} (hl : body.length ≤ 100000) (hat : at_ ≤ body.length) (hread : setRead (body.drop at_) = some (piece, k))
    (h : ∀ H' ta, Ext H H' → H ta = none → H' ta = some (.tuple [.str piece, .int (at_ + k : Nat)]) → Q (.ref ta) H') : Ca C m (.ref 181) [.str body, .int at_] [] H Q := by
  refine call_fn O (by omega) [(Str.ofString "body", .str body), (Str.ofString "at", .int at_)] F.f30.at_ F.f30.code ?_ (loc_of (by kernel_rfl)) (by decide +kernel) (by decide +kernel) (by decide +kernel) (by kernel_rfl) (by kernel_rfl) (by kernel_rfl) ?_
  · intro s vs ks X hv hk
    obtain ⟨v, w, rfl, hv', hw'⟩ := args2 hv
    cases kws0 hk
    exact ⟨[(Str.ofString "body", v), (Str.ofString "at", w)], BindsTo.of_eq (by kernel_rfl), by simp [hv', hw']⟩
  · intro C' K
    obtain ⟨L', henv⟩ := K.env
    have n0 : C'.env.scope.names[0]? = some (Str.ofString "body", NameKind.local) := by rw [K.scope]; rfl
    have w0 : Slot' C' (Str.ofString "body") 0 := .inl n0
    have n1 : C'.env.scope.names[1]? = some (Str.ofString "at", NameKind.local) := by rw [K.scope]; rfl
    have w1 : Slot' C' (Str.ofString "at") 1 := .inl n1
    have n2 : C'.env.scope.names[2]? = some (Str.ofString "signs", NameKind.local) := by rw [K.scope]; rfl
    have w2 : Slot' C' (Str.ofString "signs") 2 := .inl n2
    have g3 : C'.env.kindOf (Str.ofString "len") = some .globalImplicit := kind_is K.scope (by kernel_rfl)
    have O' := K.ok
    have F' := K.kf F
    have hin := inter_of O'
    have b3 := is_len O' F' g3
    rw [show initLoc (scopeN 30).names [(Str.ofString "body", PV.str body), (Str.ofString "at", .int at_)].reverse = [some (.str body), some (.int at_), none, none] by kernel_rfl]
    refine exs_letm ?_
    intro M0
    have hb16 : body.length ≤ 16777216 := Nat.le_trans hl (by decide)
    have l1 : (Str.ofString "\\[").cps.toList = [92, 91] := by decide +kernel
    have l2 : (Str.ofString "]").cps.toList = [93] := by decide +kernel
    have l3 : (Str.ofString "[").cps.toList = [91] := by decide +kernel
    have l4 : (Str.ofString "]\\").cps.toList = [93, 92] := by decide +kernel
    have l5 : (Str.ofString "").cps.toList = [] := by decide +kernel
    have hw2 : slc body (some (at_ : Int)) (some ((at_ : Int) + 2)) = (body.drop at_).take 2 := slc_win at_ 2
    have hw1 : slc body (some (at_ : Int)) (some ((at_ : Int) + 1)) = (body.drop at_).take 1 := slc_win at_ 1
    generalize hu : body.drop at_ = u at hread hw2 hw1
    have hug : ∀ t, u[t]? = body[at_ + t]? := fun t => by rw [← hu, List.getElem?_drop]
    have hul : u.length = body.length - at_ := by rw [← hu, List.length_drop]
    unfold setRead at hread
    refine exs_cons ?_
    repeat walk_at "vx"
    rw [l5]
    let Jv1 : Loc → PH → Prop := fun m1 H1 => Ext H H1 ∧ m1 = [some (.str body), some (.int (at_ + (setHead u).2 : Nat)), some (.str (setHead u).1), none] ∧ (setHead u).2 ≤ u.length ∧ ¬ (u.take 2 ≠ [92, 91] ∧ u.take 1 ≠ [93] ∧ u.take 1 = [91])
    refine exs_step Jv1 ?_ ?_
    · repeat walk_at "v1"
      refine slc_str hb16 ?_
      rw [hw2]
      repeat walk_at "v1"
      rw [l1]
      refine ite_eqS (fun e2 => ?_) (fun e2 => ?_)
      · refine exs_cons ?_
        refine ex_swp2 O' w2 w1 ?_ (by with_unfolding_all rfl) (by rw [henv]; kernel_rfl)
        repeat walk_at "v1"
        refine ⟨by simp, fun ta hta => ⟨ta, _, _, rfl, set_self, ?_⟩⟩
        have hh : setHead u = ([91], 2) := if_pos e2
        repeat walk_at "v1"
        rw [l3]
        refine ⟨Ext.set hta, by rw [hh]; rfl, ?_, fun h => h.1 e2⟩
        rw [hh]
        have := congrArg List.length e2
        rw [List.length_take] at this
        simp at this
        omega
      · repeat walk_at "v1"
        refine slc_str hb16 ?_
        rw [hw1]
        repeat walk_at "v1"
        rw [l2]
        refine ite_eqS (fun e1 => ?_) (fun e1 => ?_)
        · refine exs_cons ?_
          refine ex_swp2 O' w2 w1 ?_ (by with_unfolding_all rfl) (by rw [henv]; kernel_rfl)
          repeat walk_at "v1"
          refine ⟨by simp, fun ta hta => ⟨ta, _, _, rfl, set_self, ?_⟩⟩
          have hh : setHead u = ([93], 1) := by unfold setHead; rw [if_neg e2, if_pos e1]
          repeat walk_at "v1"
          rw [l2]
          refine ⟨Ext.set hta, by rw [hh]; rfl, ?_, fun h => h.2.1 e1⟩
          rw [hh]
          have := congrArg List.length e1
          rw [List.length_take] at this
          simp at this
          omega
        · repeat walk_at "v1"
          refine slc_str hb16 ?_
          rw [hw1]
          repeat walk_at "v1"
          rw [l3]
          refine ite_eqS (fun e3 => ?_) (fun e3 => ?_)
          · rw [if_pos ⟨e2, e1, e3⟩] at hread
            cases hread
          · have hh : setHead u = ([], 0) := by unfold setHead; rw [if_neg e2, if_neg e1]
            repeat walk_at "v1"
            exact ⟨Ext.refl, by rw [hh]; rfl, by rw [hh]; exact Nat.zero_le _, fun h => e3 h.2.2⟩
    · rintro m1 H1 ⟨hE, rfl, hk0, hneg⟩
      clear Jv1
      rw [if_neg hneg] at hread
      generalize hsh : setHead u = sh at *
      have hs0 := setHead_len u
      rw [hsh] at hs0
      obtain ⟨s0, k0⟩ := sh
      dsimp only at hk0 hread hs0 ⊢
      have hrundef : setRun u = (u.drop k0).takeWhile fun c => !([93, 92].contains c) := by unfold setRun; rw [hsh]
      generalize hrn : setRun u = run at *
      have hpre : run ++ (u.drop k0).dropWhile (fun c => !([93, 92].contains c)) = u.drop k0 := by rw [hrundef]; exact List.takeWhile_append_dropWhile
      generalize hrest : (u.drop k0).dropWhile (fun c => !([93, 92].contains c)) = rest at hpre
      have hrl : run.length + rest.length + k0 = u.length := by
        have := congrArg List.length hpre
        rw [List.length_append, List.length_drop] at this
        omega
      have hrn16 : s0.length + run.length + 10 ≤ 16777216 := by
        have h1 : run.length ≤ u.length := by rw [← hrl, Nat.add_assoc]; exact Nat.le_add_right _ _
        have h2 : u.length ≤ 100000 := hul ▸ Nat.le_trans (Nat.sub_le _ _) hl
        exact Nat.le_trans (Nat.add_le_add_right (Nat.add_le_add hs0 (Nat.le_trans h1 h2)) 10) (by decide)
      have hin_run : ∀ t (ht : t < run.length), body[at_ + k0 + t]? = some run[t] ∧ run[t] ∉ [93, 92] := by
        intro t ht
        have h1 : (u.drop k0)[t]? = some run[t] := by rw [← hpre, List.getElem?_append_left ht, List.getElem?_eq_getElem ht]
        rw [List.getElem?_drop, hug] at h1
        refine ⟨by rw [← h1, Nat.add_assoc], ?_⟩
        have : run[t] ∈ (u.drop k0).takeWhile fun c => !([93, 92].contains c) := by rw [← hrundef]; exact List.getElem_mem ht
        have := tw_mem this
        simpa using this
      have hend : rest = [] ∨ ∃ c r, rest = c :: r ∧ c ∈ [93, 92] := by
        cases rest with
        | nil => exact .inl rfl
        | cons c r =>
          refine .inr ⟨c, r, rfl, ?_⟩
          have h2 := dw_head hrest
          have h3 : ¬ c = 93 → c = 92 := by simpa using h2
          by_cases e : c = 93
          · simp [e]
          · simp [h3 e]
      have hafter : (u.drop (k0 + run.length)) = rest := by
        rw [← List.drop_drop, ← hpre, List.drop_left]
      rw [hafter] at hread
      let Jv2 : Loc → PH → Prop := fun m1 H1 => Ext H H1 ∧ m1 = [some (.str body), some (.int (at_ + k0 + run.length : Nat)), some (.str (s0 ++ run)), none]
      refine exs_step Jv2 ?_ ?_
      · let Jv3 : Nat → Loc → PH → Prop := fun j m1 H1 => ∃ t, m1 = [some (.str body), some (.int (at_ + k0 + t : Nat)), some (.str (s0 ++ run.take t)), none] ∧ Ext H H1 ∧ t ≤ run.length ∧ j = run.length - t
        refine ex_while O' Jv3 run.length ⟨0, by simp, hE, Nat.zero_le _, rfl⟩ ?_
        rintro j m1 H1 ⟨t, rfl, hE1, ht, rfl⟩
        repeat walk_at "v1"
        refine ca_len_str hb16 ?_
        repeat walk_at "v1"
        refine ite_dec (fun hlt => ?_) (fun hge => ?_)
        · have hlt' : at_ + k0 + t < body.length := Int.ofNat_lt.mp hlt
          repeat walk_at "v1"
          refine sub_str (Int.natCast_nonneg _) hlt hb16 ?_
          rw [Int.toNat_natCast]
          have hbc : body[at_ + k0 + t]? = some (body.getD (at_ + k0 + t) 0) := by rw [List.getD, List.getElem?_eq_getElem hlt']; rfl
          generalize body.getD (at_ + k0 + t) 0 = c at hbc
          repeat walk_at "v1"
          rw [l4]
          rcases Nat.lt_or_ge t run.length with htl | htl
          · obtain ⟨h1, h2⟩ := hin_run t htl
            have hc : run[t] = c := by rw [h1] at hbc; simpa using hbc
            rw [hc] at h2
            rw [decide_eq_false h2]
            show AndQ _ _ _ _ true _
            repeat walk_at "v1"
            refine ex_swp2 O' w2 w1 ?_ (by with_unfolding_all rfl) (by rw [henv]; kernel_rfl)
            repeat walk_at "v1"
            refine sub_str (Int.natCast_nonneg _) hlt hb16 ?_
            rw [Int.toNat_natCast]
            have hbc' : body.getD (at_ + k0 + t) 0 = c := by rw [List.getD, hbc]; rfl
            rw [hbc']
            refine bin_addS (by rw [List.length_append, List.length_take]; exact Nat.le_trans (Nat.add_le_add_right (Nat.add_le_add_left (Nat.min_le_right _ _) _) 1) (Nat.le_trans (Nat.add_le_add_left (by decide : 1 ≤ 10) _) hrn16)) ?_
            repeat walk_at "v1"
            refine ⟨by simp, fun ta hta => ⟨ta, _, _, rfl, set_self, ?_⟩⟩
            repeat walk_at "v1"
            refine ⟨run.length - (t + 1), Nat.sub_lt_sub_left htl (Nat.lt_succ_self t), t + 1, ?_, Ext.trans hE1 (Ext.set hta), htl, rfl⟩
            have : s0 ++ run.take t ++ [c] = s0 ++ run.take (t + 1) := by
              rw [List.take_add_one, List.getElem?_eq_getElem htl, hc, List.append_assoc]; rfl
            rw [this]
            rfl
          · have htr : t = run.length := Nat.le_antisymm ht htl
            have hcm : c ∈ [93, 92] := by
              have h1 : rest[0]? = some c := by
                have : (u.drop k0)[run.length]? = some c := by rw [List.getElem?_drop, hug, ← hbc, htr]; congr 1; omega
                rw [← hpre, List.getElem?_append_right (Nat.le_refl _), Nat.sub_self] at this
                exact this
              rcases hend with e | ⟨c', r', e, hm⟩
              · rw [e] at h1; cases h1
              · rw [e] at h1
                simp only [List.getElem?_cons_zero, Option.some.injEq] at h1
                rw [← h1]; exact hm
            rw [decide_eq_true hcm]
            show AndQ _ _ _ _ false _
            repeat walk_at "v1"
            rw [htr, List.take_length]
            exact ⟨hE1, rfl⟩
        · have htr : t = run.length := by omega
          repeat walk_at "v1"
          rw [htr, List.take_length]
          exact ⟨hE1, rfl⟩
      · rintro m1 H1 ⟨hE1, rfl⟩
        have hw1' : slc body (some ((at_ + k0 + run.length : Nat) : Int)) (some (((at_ + k0 + run.length : Nat) : Int) + 1)) = rest.take 1 := by
          have := slc_win (x := body) (at_ + k0 + run.length) 1
          rw [← hafter, ← hu, List.drop_drop, ← Nat.add_assoc]
          exact this
        split at hread
        · cases hread
        · rename_i hcond
          cases hread
          have hc1 : rest.take 1 = [93] := Decidable.byContradiction fun q => hcond (.inl q)
          have hc2 : s0 ++ run ≠ [] := fun q => hcond (.inr q)
          repeat walk_at "v1"
          refine slc_str hb16 ?_
          rw [hw1', hc1]
          repeat walk_at "v1"
          rw [l2]
          refine ite_neS (fun q => absurd rfl q) (fun _ => ?_)
          repeat walk_at "v1"
          refine tr_str (by rw [List.length_append]; exact Nat.le_trans (Nat.le_add_right _ 10) hrn16) ?_
          rw [decide_eq_true hc2]
          show OrQ _ _ _ _ false _
          repeat walk_at "v1"
          rw [l3]
          refine bin_addS (by simp; omega) ?_
          repeat walk_at "v1"
          rw [l2]
          refine bin_addS (by simp; omega) ?_
          repeat walk_at "v1"
          refine ⟨by simp, fun ta hta => ?_⟩
          repeat walk_at "v1"
          have e : ((at_ + k0 + run.length : Nat) : Int) + 1 = ((at_ + (k0 + run.length + 1) : Nat) : Int) := by omega
          rw [e]
          exact h _ ta (Ext.trans hE1 (Ext.set hta)) (hE1.gone hta) set_self
noncomputable abbrev rdM (given body done : List Nat) (at_ : Int) (t : List Nat) (x6 x7 x8 x9 x10 : Option PV) : Loc := [some (.str given), some (.str specialL), some (.str body), some (.str done), some (.int at_), some (.str t), x6, x7, x8, x9, x10, none, none]
noncomputable abbrev rdInv (given body signs : List Nat) (st : RSt) (H : PH) : Nat → Loc → PH → Prop := fun k m1 H1 => ∃ (at_ f : Nat) (done more : List Nat) (s : RSt) (x6 x7 x8 x9 x10 : Option PV), m1 = rdM given body done at_ s.t x6 x7 x8 x9 x10 ∧
        Ext H H1 ∧ rdRun f (body.drop at_) s = some (more, st) ∧ done ++ more = signs ∧ at_ ≤ body.length ∧ k = body.length - at_
set_option maxHeartbeats 8000000 in
theorem spec_read {C : Cx} {m : Loc} {H : PH} {Q : PV → PH → Prop} (O : C.Ok) (F : KF C.K) (hr : C.A.depth + 1 < recursionLimit) {body signs : List Nat} {st : RSt} (hl : body.length ≤ 100000) (hread : rdRun body.length body .front = some (signs, st)) (hst : st = .front ∨ st = .last) (hsl : signs.length ≤ 100000)
    (h : ∀ H', Ext H H' → Q (.str signs) H') : Ca C m (.ref 188) [.str ([40, 63, 115, 58] ++ body ++ [41, 92, 90])] [] H Q := by
  generalize hg : [40, 63, 115, 58] ++ body ++ [41, 92, 90] = given
  have hgl : given.length = body.length + 7 := by rw [← hg]; simp
  refine call_fn O (by omega) [(Str.ofString "given", .str given)] F.f31.at_ F.f31.code ?_ (loc_of (by kernel_rfl)) (by decide +kernel) (by decide +kernel) (by decide +kernel) (by kernel_rfl) (by kernel_rfl) (by kernel_rfl) ?_
  · intro s vs ks X hv hk
    obtain ⟨v, rfl, hv'⟩ := args1 hv
    cases kws0 hk
    exact ⟨[(Str.ofString "given", v)], BindsTo.of_eq (by kernel_rfl), by simp [hv']⟩
  · intro C' K
    have hr' : C'.A.depth < recursionLimit := by rw [K.depth]; omega
    obtain ⟨L', henv⟩ := K.env
    have n0 : C'.env.scope.names[0]? = some (Str.ofString "given", NameKind.local) := by rw [K.scope]; rfl
    have w0 : Slot' C' (Str.ofString "given") 0 := .inl n0
    have n1 : C'.env.scope.names[1]? = some (Str.ofString "special", NameKind.local) := by rw [K.scope]; rfl
    have w1 : Slot' C' (Str.ofString "special") 1 := .inl n1
    have n2 : C'.env.scope.names[2]? = some (Str.ofString "body", NameKind.local) := by rw [K.scope]; rfl
    have w2 : Slot' C' (Str.ofString "body") 2 := .inl n2
    have n3 : C'.env.scope.names[3]? = some (Str.ofString "signs", NameKind.local) := by rw [K.scope]; rfl
    have w3 : Slot' C' (Str.ofString "signs") 3 := .inl n3
    have n4 : C'.env.scope.names[4]? = some (Str.ofString "at", NameKind.local) := by rw [K.scope]; rfl
    have w4 : Slot' C' (Str.ofString "at") 4 := .inl n4
    have n5 : C'.env.scope.names[5]? = some (Str.ofString "state", NameKind.local) := by rw [K.scope]; rfl
    have w5 : Slot' C' (Str.ofString "state") 5 := .inl n5
    have n6 : C'.env.scope.names[6]? = some (Str.ofString "sign", NameKind.local) := by rw [K.scope]; rfl
    have w6 : Slot' C' (Str.ofString "sign") 6 := .inl n6
    have n7 : C'.env.scope.names[7]? = some (Str.ofString "free", NameKind.local) := by rw [K.scope]; rfl
    have w7 : Slot' C' (Str.ofString "free") 7 := .inl n7
    have n8 : C'.env.scope.names[8]? = some (Str.ofString "after", NameKind.local) := by rw [K.scope]; rfl
    have w8 : Slot' C' (Str.ofString "after") 8 := .inl n8
    have n9 : C'.env.scope.names[9]? = some (Str.ofString "rest", NameKind.local) := by rw [K.scope]; rfl
    have w9 : Slot' C' (Str.ofString "rest") 9 := .inl n9
    have n10 : C'.env.scope.names[10]? = some (Str.ofString "piece", NameKind.local) := by rw [K.scope]; rfl
    have w10 : Slot' C' (Str.ofString "piece") 10 := .inl n10
    have g11 : C'.env.kindOf (Str.ofString "len") = some .globalImplicit := kind_is K.scope (by kernel_rfl)
    have g12 : C'.env.kindOf (Str.ofString "_law_set") = some .globalImplicit := kind_is K.scope (by kernel_rfl)
    have O' := K.ok
    have F' := K.kf F
    have hin := inter_of O'
    have b11 := is_len O' F' g11
    have b12 := is_F O' g12 F'.f30 (by decide)
    have q12 := kp_K O' F'.f30.keep
    rw [show initLoc (scopeN 31).names [(Str.ofString "given", PV.str given)].reverse = [some (.str given), none, none, none, none, none, none, none, none, none, none, none, none] by kernel_rfl]
    refine exs_letm ?_
    intro M0
    have lsp : (Str.ofString "()[]{}?*+-|^$\\.&~# \t\n\r\x0b\x0c").cps.toList = specialL := by decide +kernel
    have hs1 : slc given none (some 4) = [40, 63, 115, 58] := by rw [show (4 : Int) = ((4 : Nat) : Int) from rfl, slc_to, ← hg]; rfl
    have hs2 : slc given (some (-3)) none = [41, 92, 90] := by
      rw [show (-3 : Int) = -((3 : Nat) : Int) from rfl, slc_last 3 (by decide), hgl, ← hg]
      have : body.length + 7 - 3 = ([40, 63, 115, 58] ++ body).length := by simp
      rw [this, List.drop_left]
    have hs3 : slc given (some 4) (some (-3)) = body := by
      rw [show (4 : Int) = ((4 : Nat) : Int) from rfl, show (-3 : Int) = -((3 : Nat) : Int) from rfl, slc_mid 4 3 (by decide) (by omega), hgl, ← hg]
      have : body.length + 7 - 3 - 4 = body.length := by omega
      rw [this]
      show ((body ++ [41, 92, 90])).take body.length = body
      exact List.take_left
    have lfr : (Str.ofString "front").cps.toList = RSt.front.t := by decide +kernel
    have lem : (Str.ofString "").cps.toList = [] := by decide +kernel
    have hb16 : body.length ≤ 16777216 := Nat.le_trans hl (by decide)
    have hg16 : given.length ≤ 16777216 := by rw [hgl]; exact Nat.le_trans (Nat.add_le_add_right hl 7) (by decide)
    refine exs_cons ?_
    repeat walk_at "v1"
    rw [lsp]
    refine slc_str hg16 ?_
    rw [hs1]
    repeat walk_at "v1"
    rw [show (Str.ofString "(?s:").cps.toList = [40, 63, 115, 58] from by decide +kernel]
    refine ite_neS (fun q => absurd rfl q) (fun _ => ?_)
    repeat walk_at "v1"
    refine slc_str hg16 ?_
    rw [hs2]
    repeat walk_at "v1"
    rw [show (Str.ofString ")\\Z").cps.toList = [41, 92, 90] from by decide +kernel]
    refine ite_neS (fun q => absurd rfl q) (fun _ => ?_)
    repeat walk_at "v1"
    refine ex_unp4 O' w2 w3 w4 w5 ?_ (by with_unfolding_all rfl) (by rw [henv]; kernel_rfl)
    repeat walk_at "v1"
    refine slc_str hg16 ?_
    rw [hs3]
    repeat walk_at "v1"
    refine ⟨by simp, fun ta hta => ⟨ta, _, _, _, _, rfl, set_self, ?_⟩⟩
    rw [lem, lfr]
    repeat walk_at "vx"
    let Jv1 : Loc → PH → Prop := fun m1 H1 => Ext H H1 ∧ ∃ (x4 x6 x7 x8 x9 x10 : Option PV), m1 = [some (.str given), some (.str specialL), some (.str body), some (.str signs), x4, some (.str st.t), x6, x7, x8, x9, x10, none, none]
    refine exs_step Jv1 ?_ ?_
    · refine ex_while O' (rdInv given body signs st H) body.length ⟨0, body.length, [], signs, .front, none, none, none, none, none, rfl, Ext.set hta, hread, rfl, Nat.zero_le _, rfl⟩ ?_
      rintro k m1 H1 ⟨at_, f, done, more, s, x6, x7, x8, x9, x10, rfl, hE, hrun, hdone, hat, rfl⟩
      repeat walk_at "v1"
      refine ca_len_str hb16 ?_
      repeat walk_at "v1"
      refine ite_dec (fun hlt => ?_) (fun hge => ?_)
      · have hlt' : at_ < body.length := Int.ofNat_lt.mp hlt
        have hdl : done.length ≤ 100000 := by have := congrArg List.length hdone; rw [List.length_append] at this; omega
        have hda : ∀ n, n ≤ 100 → done.length + n ≤ 16777216 := fun n h => Nat.le_trans (Nat.add_le_add hdl h) (by decide)
        have hw : ∀ k : Nat, slc body (some (at_ : Int)) (some ((at_ : Int) + k)) = (body.drop at_).take k := fun k => slc_win at_ k
        have hu0 : body.getD at_ 0 = (body.drop at_).getD 0 0 := by simp [List.getD]
        have hul : (body.drop at_).length = body.length - at_ := List.length_drop
        generalize hu : body.drop at_ = u at hrun hw hu0 hul
        have hdk : ∀ k, body.drop (at_ + k) = u.drop k := fun k => by rw [← hu, List.drop_drop]
        cases f with
        | zero => cases u with
          | nil => simp at hul; omega
          | cons c r => cases hrun
        | succ f =>
        have hstep : ∃ sg kk s', rdStep u s = some (sg, kk, s') ∧ ∃ more', rdRun f (u.drop kk) s' = some (more', st) ∧ sg ++ more' = more := by
          cases u with
          | nil => simp at hul; omega
          | cons c r =>
            rw [rdRun] at hrun
            cases hq : rdStep (c :: r) s with
            | none => rw [hq] at hrun; cases hrun
            | some q =>
              obtain ⟨sg, kk, s'⟩ := q
              rw [hq] at hrun
              dsimp only at hrun
              cases hq2 : rdRun f ((c :: r).drop kk) s' with
              | none => rw [hq2] at hrun; cases hrun
              | some q2 =>
                rw [hq2] at hrun
                obtain ⟨m2, s2⟩ := q2
                simp only [Option.map_some, Option.some.injEq, Prod.mk.injEq] at hrun
                obtain ⟨h1, h2⟩ := hrun
                exact ⟨sg, kk, s', rfl, m2, by rw [hq2, h2], h1⟩
        obtain ⟨sg, kk, s', hstep, more', hrun', hsg⟩ := hstep
        clear hrun
        -- a turn done
        have go : ∀ (x6 x7 x8 x9 x10 : Option PV) (H2 : PH), Ext H1 H2 → 1 ≤ kk → kk ≤ u.length →
            ∃ n', n' < body.length - at_ ∧ rdInv given body signs st H n' (rdM given body (done ++ sg) (at_ + kk : Nat) s'.t x6 x7 x8 x9 x10) H2 := by
          intro x6 x7 x8 x9 x10 H2 hE2 h1 h2
          refine ⟨body.length - (at_ + kk), Nat.sub_lt_sub_left hlt' (Nat.lt_add_of_pos_right h1), at_ + kk, f, done ++ sg, more', s', x6, x7, x8, x9, x10, rfl, Ext.trans hE hE2, by rw [hdk]; exact hrun', by rw [List.append_assoc, hsg]; exact hdone, Nat.add_le_of_le_sub' (Nat.le_of_lt hlt') (hul ▸ h2), rfl⟩
        unfold rdStep at hstep
        refine exs_cons ?_
        refine ex_swp2 O' w6 w7 ?_ (by with_unfolding_all rfl) (by rw [henv]; kernel_rfl)
        repeat walk_at "v1"
        refine sub_str (Int.natCast_nonneg _) hlt hb16 ?_
        rw [Int.toNat_natCast, hu0]
        generalize hc : u.getD 0 0 = c at hstep
        repeat walk_at "v1"
        refine ⟨by simp, fun tb htb => ?_⟩
        rw [show (Str.ofString "front").cps.toList = RSt.front.t from by decide +kernel, show (Str.ofString "behind").cps.toList = RSt.behind.t from by decide +kernel]
        refine cmp_inT (ys := [RSt.front.t, RSt.behind.t]) set_self ?_
        rw [show ([RSt.front.t, RSt.behind.t].any (· == s.t)) = s.free by cases s <;> decide]
        repeat walk_at "v1"
        refine ⟨by simp, fun tc htc => ⟨tc, _, _, rfl, set_self, ?_⟩⟩
        have hE2 : Ext H1 ((H1.set tb (.tuple [.str RSt.front.t, .str RSt.behind.t])).set tc (.tuple [.str [c], .bool s.free])) := Ext.trans (Ext.set htb) (Ext.set htc)
        generalize ((H1.set tb (.tuple [.str RSt.front.t, .str RSt.behind.t])).set tc (.tuple [.str [c], .bool s.free])) = H2 at hE2 ⊢
        repeat walk_at "vx"
        have hw6 : slc body (some (at_ : Int)) (some ((at_ : Int) + 6)) = u.take 6 := hw 6
        have hw2 : slc body (some (at_ : Int)) (some ((at_ : Int) + 2)) = u.take 2 := hw 2
        have hw12 : slc body (some ((at_ : Int) + 1)) (some ((at_ : Int) + 2)) = (u.drop 1).take 1 := by
          have := slc_win (x := body) (at_ + 1) 1
          rw [hdk] at this
          exact this
        have hwf : slc body (some ((at_ : Int) + 2)) none = u.drop 2 := by
          have := slc_from (x := body) (at_ + 2)
          rw [hdk] at this
          exact this
        have hupos : 0 < u.length := by omega
        have tk : ∀ (n : Nat) (l : List Nat), u.take n = l → l.length = n → n ≤ u.length := fun n l e hl => by
          have := congrArg List.length e
          rw [List.length_take, hl] at this
          omega
        refine exs_cons ?_
        refine ex_if_cut (decide (s.free = true ∧ u.take 6 = [40, 63, 62, 46, 42, 63])) ?_ ?_
        · repeat walk_at "v1"
          cases hfr : s.free
          · repeat walk_at "v2"
            exact ⟨by simp, rfl⟩
          · repeat walk_at "v2"
            refine slc_str hb16 ?_
            rw [hw6]
            repeat walk_at "v1"
            rw [show (Str.ofString "(?>.*?").cps.toList = [40, 63, 62, 46, 42, 63] from by decide +kernel]
            refine ite_eqS (fun e => ?_) (fun e => ?_)
            · repeat walk_at "v1"
              exact ⟨by simp [e], rfl⟩
            · exact ⟨by simp [e], rfl⟩
        refine ite_dec (fun c1 => ?_) (fun c1 => ?_)
        · rw [if_pos c1] at hstep
          cases hstep
          refine exs_cons ?_
          refine ex_swp3 O' w3 w4 w5 ?_ (by with_unfolding_all rfl) (by rw [henv]; kernel_rfl)
          repeat walk_at "v1"
          rw [show (Str.ofString "*").cps.toList = [42] from by decide +kernel]
          refine bin_addS (hda _ (Nat.le_of_ble_eq_true rfl)) ?_
          repeat walk_at "v1"
          refine ⟨by simp, fun td htd => ⟨td, _, _, _, rfl, set_self, ?_⟩⟩
          rw [show (Str.ofString "group").cps.toList = RSt.group.t from by decide +kernel]
          repeat walk_at "v1"
          exact go _ _ _ _ _ _ (Ext.trans hE2 (Ext.set htd)) (by decide) (tk 6 _ c1.2 rfl)
        rw [if_neg c1] at hstep
        refine exs_cons ?_
        refine ex_if_cut (decide (s.free = true ∧ u.take 2 = [46, 42])) ?_ ?_
        · repeat walk_at "v1"
          cases hfr : s.free
          · repeat walk_at "v2"
            exact ⟨by simp, rfl⟩
          · repeat walk_at "v2"
            refine slc_str hb16 ?_
            rw [hw2]
            repeat walk_at "v1"
            rw [show (Str.ofString ".*").cps.toList = [46, 42] from by decide +kernel]
            refine ite_eqS (fun e => ?_) (fun e => ?_)
            · repeat walk_at "v1"
              exact ⟨by simp [e], rfl⟩
            · exact ⟨by simp [e], rfl⟩
        refine ite_dec (fun c2 => ?_) (fun c2 => ?_)
        · rw [if_pos c2] at hstep
          cases hstep
          refine exs_cons ?_
          refine ex_swp3 O' w3 w4 w5 ?_ (by with_unfolding_all rfl) (by rw [henv]; kernel_rfl)
          repeat walk_at "v1"
          rw [show (Str.ofString "*").cps.toList = [42] from by decide +kernel]
          refine bin_addS (hda _ (Nat.le_of_ble_eq_true rfl)) ?_
          repeat walk_at "v1"
          refine ⟨by simp, fun td htd => ⟨td, _, _, _, rfl, set_self, ?_⟩⟩
          rw [show (Str.ofString "last").cps.toList = RSt.last.t from by decide +kernel]
          repeat walk_at "v1"
          exact go _ _ _ _ _ _ (Ext.trans hE2 (Ext.set htd)) (by decide) (tk 2 _ c2.2 rfl)
        rw [if_neg c2] at hstep
        refine exs_cons ?_
        refine ex_if_cut (decide (s = .group ∧ c = 41)) ?_ ?_
        · repeat walk_at "v1"
          rw [show (Str.ofString "group").cps.toList = RSt.group.t from by decide +kernel]
          refine ite_eqS (fun e => ?_) (fun e => ?_)
          · have e' := RSt.inj e
            repeat walk_at "v1"
            refine ite_eqS (fun e3 => ?_) (fun e3 => ?_)
            · have h41 : c = 41 := one_of e3 (by decide +kernel)
              repeat walk_at "v1"
              exact ⟨by simp [e', h41], rfl⟩
            · have h41 : c ≠ 41 := not_one e3 (by decide +kernel)
              exact ⟨by simp [h41], rfl⟩
          · have e' : s ≠ .group := fun q => e (by rw [q])
            exact ⟨by simp [e'], rfl⟩
        refine ite_dec (fun c3 => ?_) (fun c3 => ?_)
        · rw [if_pos c3] at hstep
          cases hstep
          refine exs_cons ?_
          refine ex_swp2 O' w4 w5 ?_ (by with_unfolding_all rfl) (by rw [henv]; kernel_rfl)
          repeat walk_at "v1"
          refine ⟨by simp, fun td htd => ⟨td, _, _, rfl, set_self, ?_⟩⟩
          rw [show (Str.ofString "behind").cps.toList = RSt.behind.t from by decide +kernel]
          repeat walk_at "v1"
          simp only [List.append_nil] at go
          exact go _ _ _ _ _ _ (Ext.trans hE2 (Ext.set htd)) (by decide) (by omega)
        rw [if_neg c3] at hstep
        refine exs_cons ?_
        refine ex_if_cut (decide (s = .behind)) ?_ ?_
        · repeat walk_at "v1"
          rw [show (Str.ofString "behind").cps.toList = RSt.behind.t from by decide +kernel]
          refine ⟨?_, rfl⟩
          by_cases e : s = .behind
          · simp [e]
          · have : s.t ≠ RSt.behind.t := fun q => e (RSt.inj q)
            simp [e, this]
        refine ite_dec (fun c4 => ?_) (fun c4 => ?_)
        · rw [if_pos c4] at hstep
          cases hstep
        rw [if_neg c4] at hstep
        refine exs_cons ?_
        refine ex_if_cut (decide (c = 92)) ?_ ?_
        · repeat walk_at "v1"
          rw [show (Str.ofString "\\").cps.toList = [92] from by decide +kernel]
          refine ⟨?_, rfl⟩
          by_cases e : c = 92 <;> simp [e]
        refine ite_dec (fun c5 => ?_) (fun c5 => ?_)
        · rw [if_pos c5] at hstep
          cases hu1 : u[1]? with
          | none => rw [hu1] at hstep; cases hstep
          | some a =>
            rw [hu1] at hstep
            dsimp only at hstep
            by_cases hcond : a ∉ specialL ∨ a ∈ [42, 63] ∨ (a = 91 ∧ 93 ∈ (if (u.drop 2).take 2 = [92, 93] then (u.drop 2).drop 2 else u.drop 2))
            · rw [if_pos hcond] at hstep
              cases hstep
            · rw [if_neg hcond] at hstep
              cases hstep
              have hl2 : 2 ≤ u.length := (List.getElem?_eq_some_iff.mp hu1).1
              have hd1 : (u.drop 1).take 1 = [a] := by rw [drop_some hu1]; rfl
              have ha1 : a ∈ specialL := Decidable.byContradiction fun q => hcond (.inl q)
              have ha2 : a ∉ [42, 63] := fun q => hcond (.inr (.inl q))
              have ha3 : ¬ (a = 91 ∧ 93 ∈ (if (u.drop 2).take 2 = [92, 93] then (u.drop 2).drop 2 else u.drop 2)) := fun q => hcond (.inr (.inr q))
              refine exs_cons ?_
              refine ex_swp2 O' w8 w9 ?_ (by with_unfolding_all rfl) (by rw [henv]; kernel_rfl)
              repeat walk_at "v1"
              refine slc_str hb16 ?_
              rw [hw12, hd1]
              repeat walk_at "v1"
              refine slc_str hb16 ?_
              rw [hwf]
              repeat walk_at "v1"
              refine ⟨by simp, fun td htd => ⟨td, _, _, rfl, set_self, ?_⟩⟩
              generalize hrst : u.drop 2 = rst at ha3
              have hrstl : rst.length ≤ 100000 := by rw [← hrst, List.length_drop]; exact Nat.le_trans (Nat.sub_le _ _) (hul ▸ Nat.le_trans (Nat.sub_le _ _) hl)
              repeat walk_at "v1"
              rw [decide_eq_true ha1]
              rw [show (!true) = false from rfl]
              repeat walk_at "v1"
              rw [show (Str.ofString "*?").cps.toList = [42, 63] from by decide +kernel]
              rw [decide_eq_false ha2]
              repeat walk_at "v1"
              refine ite_eqS (fun e => ?_) (fun e => ?_)
              · have h91 : a = 91 := one_of e (by decide +kernel)
                have hno : ¬ 93 ∈ (if rst.take 2 = [92, 93] then rst.drop 2 else rst) := fun q => ha3 ⟨h91, q⟩
                repeat walk_at "v1"
                refine slc_str (Nat.le_trans hrstl (by decide)) ?_
                rw [show (2 : Int) = ((2 : Nat) : Int) from rfl, slc_to]
                repeat walk_at "v1"
                rw [show (Str.ofString "\\]").cps.toList = [92, 93] from by decide +kernel]
                refine ite_eqS (fun e2 => ?_) (fun e2 => ?_)
                · rw [if_pos e2] at hno
                  repeat walk_at "v1"
                  refine slc_str (Nat.le_trans hrstl (by decide)) ?_
                  rw [slc_from]
                  rw [show (Str.ofString "]").cps.toList = [93] from by decide +kernel]
                  repeat walk_at "v1"
                  rw [decide_eq_false hno]
                  repeat walk_at "v1"
                  refine ex_swp2 O' w3 w4 ?_ (by with_unfolding_all rfl) (by rw [henv]; kernel_rfl)
                  repeat walk_at "v1"
                  refine bin_addS (hda _ (Nat.le_of_ble_eq_true rfl)) ?_
                  repeat walk_at "v1"
                  refine ⟨by simp, fun te hte => ⟨te, _, _, rfl, set_self, ?_⟩⟩
                  repeat walk_at "v1"
                  exact go _ _ _ _ _ _ (Ext.trans hE2 (Ext.trans (Ext.set htd) (Ext.set hte))) (by decide) hl2
                · rw [if_neg e2] at hno
                  repeat walk_at "v1"
                  rw [show (Str.ofString "]").cps.toList = [93] from by decide +kernel]
                  repeat walk_at "v1"
                  rw [decide_eq_false hno]
                  repeat walk_at "v1"
                  refine ex_swp2 O' w3 w4 ?_ (by with_unfolding_all rfl) (by rw [henv]; kernel_rfl)
                  repeat walk_at "v1"
                  refine bin_addS (hda _ (Nat.le_of_ble_eq_true rfl)) ?_
                  repeat walk_at "v1"
                  refine ⟨by simp, fun te hte => ⟨te, _, _, rfl, set_self, ?_⟩⟩
                  repeat walk_at "v1"
                  exact go _ _ _ _ _ _ (Ext.trans hE2 (Ext.trans (Ext.set htd) (Ext.set hte))) (by decide) hl2
              · repeat walk_at "v1"
                refine ex_swp2 O' w3 w4 ?_ (by with_unfolding_all rfl) (by rw [henv]; kernel_rfl)
                repeat walk_at "v1"
                refine bin_addS (hda _ (Nat.le_of_ble_eq_true rfl)) ?_
                repeat walk_at "v1"
                refine ⟨by simp, fun te hte => ⟨te, _, _, rfl, set_self, ?_⟩⟩
                repeat walk_at "v1"
                exact go _ _ _ _ _ _ (Ext.trans hE2 (Ext.trans (Ext.set htd) (Ext.set hte))) (by decide) hl2
        rw [if_neg c5] at hstep
        refine exs_cons ?_
        refine ex_if_cut (decide (c = 91)) ?_ ?_
        · repeat walk_at "v1"
          rw [show (Str.ofString "[").cps.toList = [91] from by decide +kernel]
          refine ⟨?_, rfl⟩
          by_cases e : c = 91 <;> simp [e]
        refine ite_dec (fun c6 => ?_) (fun c6 => ?_)
        · rw [if_pos c6] at hstep
          cases hsr : setRead (u.drop 1) with
          | none => rw [hsr] at hstep; cases hstep
          | some p =>
            obtain ⟨piece, kp⟩ := p
            rw [hsr] at hstep
            cases hstep
            have hkl : kp + 1 ≤ u.length := setRead_len hsr hupos
            refine exs_cons ?_
            refine ex_unp2 O' w10 w4 ?_ (by with_unfolding_all rfl) (by rw [henv]; kernel_rfl)
            repeat walk_at "v1"
            refine spec_set O' F' hr' (at_ := at_ + 1) (piece := piece) (k := kp) hl (by omega) (by rw [hdk]; exact hsr) fun H3 tf hE3 htf hH3 => ?_
            refine ⟨tf, _, _, rfl, hH3, ?_⟩
            rw [Nat.add_assoc]
            repeat walk_at "v1"
            refine inp_addS (by have := congrArg List.length hdone; rw [List.length_append, ← hsg, List.length_append] at this; dsimp only at this; omega) ?_
            repeat walk_at "v1"
            exact go _ _ _ _ _ _ (Ext.trans hE2 hE3) (by omega) (by omega)
        rw [if_neg c6] at hstep
        refine exs_cons ?_
        refine ex_if_cut (decide (c = 46)) ?_ ?_
        · repeat walk_at "v1"
          rw [show (Str.ofString ".").cps.toList = [46] from by decide +kernel]
          refine ⟨?_, rfl⟩
          by_cases e : c = 46 <;> simp [e]
        refine ite_dec (fun c7 => ?_) (fun c7 => ?_)
        · rw [if_pos c7] at hstep
          cases hstep
          refine exs_cons ?_
          refine ex_swp2 O' w3 w4 ?_ (by with_unfolding_all rfl) (by rw [henv]; kernel_rfl)
          repeat walk_at "v1"
          rw [show (Str.ofString "?").cps.toList = [63] from by decide +kernel]
          refine bin_addS (hda _ (Nat.le_of_ble_eq_true rfl)) ?_
          repeat walk_at "v1"
          refine ⟨by simp, fun te hte => ⟨te, _, _, rfl, set_self, ?_⟩⟩
          repeat walk_at "v1"
          exact go _ _ _ _ _ _ (Ext.trans hE2 (Ext.set hte)) (by decide) hupos
        rw [if_neg c7] at hstep
        refine exs_cons ?_
        refine ex_if_cut (decide (c ∈ specialL)) ?_ ?_
        · repeat walk_at "v1"
          exact ⟨rfl, rfl⟩
        refine ite_dec (fun c8 => ?_) (fun c8 => ?_)
        · rw [if_pos c8] at hstep
          cases hstep
        rw [if_neg c8] at hstep
        cases hstep
        refine exs_cons ?_
        refine ex_swp2 O' w3 w4 ?_ (by with_unfolding_all rfl) (by rw [henv]; kernel_rfl)
        repeat walk_at "v1"
        refine bin_addS (hda _ (Nat.le_of_ble_eq_true rfl)) ?_
        repeat walk_at "v1"
        refine ⟨by simp, fun te hte => ⟨te, _, _, rfl, set_self, ?_⟩⟩
        repeat walk_at "v1"
        exact go _ _ _ _ _ _ (Ext.trans hE2 (Ext.set hte)) (by decide) hupos
      · have hdn : body.drop at_ = [] := List.drop_eq_nil_of_le (by omega)
        rw [hdn] at hrun
        have : more = [] ∧ s = st := by
          cases f <;> simpa [rdRun] using hrun
        obtain ⟨rfl, rfl⟩ := this
        repeat walk_at "v1"
        rw [List.append_nil] at hdone
        rw [hdone]
        exact ⟨hE, _, _, _, _, _, _, rfl⟩
    · rintro m1 H1 ⟨hE, x4, x6, x7, x8, x9, x10, rfl⟩
      refine exs_cons ?_
      repeat walk_at "v1"
      refine ⟨by simp, fun tb htb => ?_⟩
      rw [show (Str.ofString "front").cps.toList = RSt.front.t from by decide +kernel, show (Str.ofString "last").cps.toList = RSt.last.t from by decide +kernel]
      refine cmp_inT (ys := [RSt.front.t, RSt.last.t]) set_self ?_
      rw [show ([RSt.front.t, RSt.last.t].any (· == st.t)) = true by rcases hst with rfl | rfl <;> decide]
      repeat walk_at "v1"
      exact h _ (Ext.trans hE (Ext.set htb))
theorem spec_bfd_bytes {C : Cx} {m : Loc} {H : PH} {Q : PV → PH → Prop} (O : C.Ok) (F : KF C.K) (hr : C.A.depth < recursionLimit) {b : List UInt8} (h : Q (.bytes b) H) : Ca C m (.ref 84) [.bytes b] [] H Q := by
  refine call_fn O (by omega) [(Str.ofString "s", .bytes b)] F.f13.at_ F.f13.code ?_ (loc_of (by kernel_rfl)) (by decide +kernel) (by decide +kernel) (by decide +kernel) (by kernel_rfl) (by kernel_rfl) (by kernel_rfl) ?_
  · intro s vs ks X hv hk
    obtain ⟨v, rfl, hv'⟩ := args1 hv
    cases kws0 hk
    exact ⟨[(Str.ofString "s", v)], BindsTo.of_eq (by kernel_rfl), by simp [hv']⟩
  · intro C' K
    have n0 : C'.env.scope.names[0]? = some (Str.ofString "s", NameKind.local) := by rw [K.scope]; rfl
    have w0 : Slot' C' (Str.ofString "s") 0 := .inl n0
    have g1 : C'.env.kindOf (Str.ofString "isinstance") = some .globalImplicit := kind_is K.scope (by kernel_rfl)
    have g2 : C'.env.kindOf (Str.ofString "str") = some .globalImplicit := kind_is K.scope (by kernel_rfl)
    have g3 : C'.env.kindOf (Str.ofString "UnicodeEncodeError") = some .globalImplicit := kind_is K.scope (by kernel_rfl)
    have g4 : C'.env.kindOf (Str.ofString "ValueError") = some .globalImplicit := kind_is K.scope (by kernel_rfl)
    have g5 : C'.env.kindOf (Str.ofString "bytes_types") = some .globalImplicit := kind_is K.scope (by kernel_rfl)
    have g6 : C'.env.kindOf (Str.ofString "memoryview") = some .globalImplicit := kind_is K.scope (by kernel_rfl)
    have g7 : C'.env.kindOf (Str.ofString "TypeError") = some .globalImplicit := kind_is K.scope (by kernel_rfl)
    have O' := K.ok
    have F' := K.kf F
    have hin := inter_of O'
    have b1 := is_isinstance O' F' g1
    have b2 := is_str O' F' g2
    rw [show initLoc (scopeN 13).names [(Str.ofString "s", PV.bytes b)].reverse = [some (.bytes b), none, none, none, none, none, none, none] by kernel_rfl]
    refine exs_letm ?_
    intro M0
    refine exs_cons ?_
    repeat walk_at "v1"
    refine nm_K O' (by assumption) F'.n_bt ?_
    repeat walk_at "v1"
    refine ca_isTup_bytes O' F'.o77 ?_
    repeat walk_at "v1"
    exact h
theorem spec_bfd_str {C : Cx} {m : Loc} {H : PH} {Q : PV → PH → Prop} (O : C.Ok) (F : KF C.K) (hr : C.A.depth < recursionLimit) {x : List Nat} (hx : ∀ c ∈ x, c < 128) (hl : x.length ≤ 100000) (h : Q (.bytes (x.map (·.toUInt8))) H) : Ca C m (.ref 84) [.str x] [] H Q := by
  refine call_fn O (by omega) [(Str.ofString "s", .str x)] F.f13.at_ F.f13.code ?_ (loc_of (by kernel_rfl)) (by decide +kernel) (by decide +kernel) (by decide +kernel) (by kernel_rfl) (by kernel_rfl) (by kernel_rfl) ?_
  · intro s vs ks X hv hk
    obtain ⟨v, rfl, hv'⟩ := args1 hv
    cases kws0 hk
    exact ⟨[(Str.ofString "s", v)], BindsTo.of_eq (by kernel_rfl), by simp [hv']⟩
  · intro C' K
    have n0 : C'.env.scope.names[0]? = some (Str.ofString "s", NameKind.local) := by rw [K.scope]; rfl
    have w0 : Slot' C' (Str.ofString "s") 0 := .inl n0
    have g1 : C'.env.kindOf (Str.ofString "isinstance") = some .globalImplicit := kind_is K.scope (by kernel_rfl)
    have g2 : C'.env.kindOf (Str.ofString "str") = some .globalImplicit := kind_is K.scope (by kernel_rfl)
    have g3 : C'.env.kindOf (Str.ofString "UnicodeEncodeError") = some .globalImplicit := kind_is K.scope (by kernel_rfl)
    have g4 : C'.env.kindOf (Str.ofString "ValueError") = some .globalImplicit := kind_is K.scope (by kernel_rfl)
    have g5 : C'.env.kindOf (Str.ofString "bytes_types") = some .globalImplicit := kind_is K.scope (by kernel_rfl)
    have g6 : C'.env.kindOf (Str.ofString "memoryview") = some .globalImplicit := kind_is K.scope (by kernel_rfl)
    have g7 : C'.env.kindOf (Str.ofString "TypeError") = some .globalImplicit := kind_is K.scope (by kernel_rfl)
    have O' := K.ok
    have F' := K.kf F
    have hin := inter_of O'
    have b1 := is_isinstance O' F' g1
    have b2 := is_str O' F' g2
    rw [show initLoc (scopeN 13).names [(Str.ofString "s", PV.str x)].reverse = [some (.str x), none, none, none, none, none, none, none] by kernel_rfl]
    refine exs_letm ?_
    intro M0
    refine exs_cons ?_
    repeat walk_at "v1"
    refine ex_try_quiet O' fun E' O2 => ?_
    have m0 : (C'.withE E').env.scope.names[0]? = some (Str.ofString "s", NameKind.local) := n0
    refine exs_cons ?_
    repeat walk_at "v1"
    refine ev_method "str" "str.encode" PySem.F.plainAttrs_str slot_str_encode type_str_encode ?_ (by with_unfolding_all rfl) (by with_unfolding_all rfl) (by intro _; with_unfolding_all rfl) (by simp)
    repeat walk_at "v1"
    refine ⟨rfl, ?_⟩
    repeat walk_at "v1"
    rw [show (Str.ofString "ascii").cps.toList = asciiName from by decide +kernel]
    refine ca_encode hx (by omega) ?_
    repeat walk_at "v1"
    exact h
noncomputable def figVal (fs : List Nat) : Nat := fs.foldl (fun w f => w * 64 + f) 0
noncomputable def octN (fs : List Nat) : Nat := fs.length * 3 / 4
noncomputable def octW (fs : List Nat) : Nat := figVal fs / 2 ^ (6 * fs.length - 8 * octN fs)
noncomputable def octF (fs : List Nat) : List Nat := (List.range (octN fs)).map fun k => octW fs / 256 ^ (octN fs - 1 - k) % 256
theorem figVal_take {fs : List Nat} {k f : Nat} (h : fs[k]? = some f) : figVal (fs.take (k + 1)) = figVal (fs.take k) * 64 + f := by
  unfold figVal
  rw [List.take_add_one, h]
  simp
theorem cast_sub2 {N k : Nat} (h : k < N) : (N : Int) - 1 - (k : Int) = ((N - 1 - k : Nat) : Int) := by omega
theorem spec_octets {C : Cx} {m : Loc} {H : PH} {Q : PV → PH → Prop} (O : C.Ok) (F : KF C.K) (hr : C.A.depth < recursionLimit) {fs : List Nat} {fa : Addr} (hf : H fa = some (.list (fs.map fun n => .int (n : Nat)))) (hl : fs.length ≤ 100) (hf64 : fa ≠ 64)
    (h : ∀ H', Ext H H' → Q (.bytes ((octF fs).map (·.toUInt8))) H') : Ca C m (.ref 169) [.ref fa] [] H Q := by
  refine call_fn O (by omega) [(Str.ofString "figures", .ref fa)] F.f28.at_ F.f28.code ?_ (loc_of (by kernel_rfl)) (by decide +kernel) (by decide +kernel) (by decide +kernel) (by kernel_rfl) (by kernel_rfl) (by kernel_rfl) ?_
  · intro s vs ks X hv hk
    obtain ⟨v, rfl, hv'⟩ := args1 hv
    cases kws0 hk
    exact ⟨[(Str.ofString "figures", v)], BindsTo.of_eq (by kernel_rfl), by simp [hv']⟩
  · intro C' K
    obtain ⟨L', henv⟩ := K.env
    have n0 : C'.env.scope.names[0]? = some (Str.ofString "figures", NameKind.local) := by rw [K.scope]; rfl
    have w0 : Slot' C' (Str.ofString "figures") 0 := .inl n0
    have n1 : C'.env.scope.names[1]? = some (Str.ofString "size", NameKind.cell) := by rw [K.scope]; rfl
    have w1 : Slot' C' (Str.ofString "size") 1 := .inr ⟨n1, K.cell _ (by kernel_rfl)⟩
    have n2 : C'.env.scope.names[2]? = some (Str.ofString "whole", NameKind.cell) := by rw [K.scope]; rfl
    have w2 : Slot' C' (Str.ofString "whole") 2 := .inr ⟨n2, K.cell _ (by kernel_rfl)⟩
    have n3 : C'.env.scope.names[3]? = some (Str.ofString "figure", NameKind.local) := by rw [K.scope]; rfl
    have w3 : Slot' C' (Str.ofString "figure") 3 := .inl n3
    have g4 : C'.env.kindOf (Str.ofString "len") = some .globalImplicit := kind_is K.scope (by kernel_rfl)
    have g5 : C'.env.kindOf (Str.ofString "bytes") = some .globalImplicit := kind_is K.scope (by kernel_rfl)
    have g6 : C'.env.kindOf (Str.ofString "range") = some .globalImplicit := kind_is K.scope (by kernel_rfl)
    have O' := K.ok
    have F' := K.kf F
    have hin := inter_of O'
    have b4 := is_len O' F' g4
    have b5 := is_bytes O' F' g5
    have b6 := is_range O' F' g6
    rw [show initLoc (scopeN 28).names [(Str.ofString "figures", PV.ref fa)].reverse = [some (.ref fa), none, none, none, none, none, none] by kernel_rfl]
    refine exs_letm ?_
    intro M0
    refine exs_cons ?_
    refine ex_unp2 O' w1 w2 ?_ (by with_unfolding_all rfl) (by rw [henv]; kernel_rfl)
    repeat walk_at "v1"
    refine ca_len_list hf (by rw [List.length_map]; omega) ?_
    rw [List.length_map]
    repeat walk_at "v1"
    refine bin_mul (.inr (by decide)) ?_
    repeat walk_at "v1"
    refine bin_div (by decide) (by decide) ?_
    repeat walk_at "v1"
    refine ⟨by simp, fun ta hta => ⟨ta, _, _, rfl, set_self, ?_⟩⟩
    have hsz : ((fs.length : Int) * 3).fdiv 4 = ((octN fs : Nat) : Int) := by
      rw [Int.fdiv_eq_ediv_of_nonneg _ (by decide)]
      rfl
    rw [hsz]
    have hE0 : Ext H (H.set ta (.tuple [.int (octN fs : Nat), .int 0])) := Ext.set hta
    have hf0 : (H.set ta (.tuple [.int (octN fs : Nat), .int 0])) fa = some (.list (fs.map fun n => .int (n : Nat))) := set_old hta hf
    generalize (H.set ta (.tuple [.int (octN fs : Nat), .int 0])) = H0 at hE0 hf0 ⊢
    repeat walk_at "v1"
    refine ex_for_list O' w3 (fs.map fun n => .int (n : Nat)) fa (fun k m1 H1 => ∃ x3, m1 = [some (.ref fa), some (.int (octN fs : Nat)), some (.int (figVal (fs.take k) : Nat)), x3, none, none, none] ∧ H1 fa = some (.list (fs.map fun n => .int (n : Nat))) ∧ Ext H H1) ?_ (fun k m1 H1 ⟨x3, _, h1, _⟩ => h1) ?_ ?_ (by intro _; with_unfolding_all rfl)
    · repeat walk_at "v1"
      exact ⟨rfl, none, rfl, hf0, hE0⟩
    · rintro k z m1 H1 hz ⟨x3, rfl, hf1, hE1⟩
      rw [List.getElem?_map] at hz
      cases hk : fs[k]? with
      | none => rw [hk] at hz; cases hz
      | some f =>
        rw [hk] at hz
        cases hz
        refine exs_cons ?_
        repeat walk_at "v1"
        refine bin_mul (.inr (by decide)) ?_
        repeat walk_at "v1"
        refine ⟨some (.int (f : Nat)), ?_, hf1, hE1⟩
        rw [figVal_take hk]
        rfl
    · rintro m1 H1 ⟨x3, rfl, hf1, hE1⟩
      rw [List.length_map, List.take_length]
      repeat walk_at "v1"
      refine ca_len_list hf1 (by rw [List.length_map]; omega) ?_
      rw [List.length_map]
      repeat walk_at "v1"
      refine bin_mul (.inl (by decide)) ?_
      repeat walk_at "v1"
      refine bin_mul (.inl (by decide)) ?_
      repeat walk_at "v1"
      have hN1 : 4 * octN fs ≤ fs.length * 3 := Nat.mul_div_le _ _
      have hN2 : fs.length * 3 < 4 * (octN fs + 1) := Nat.lt_mul_div_succ _ (by decide)
      have hle6 : 8 * octN fs ≤ 6 * fs.length := by omega
      have hexp : 6 * (fs.length : Int) - 8 * ((octN fs : Nat) : Int) = ((6 * fs.length - 8 * octN fs : Nat) : Int) := (Int.ofNat_sub hle6).symm
      have hexp6 : 6 * fs.length - 8 * octN fs ≤ 6 := by omega
      rw [hexp]
      refine bin_pow (by omega) (by rw [show Builtin.Int.intBits 2 = 2 from by decide]; omega) ?_
      rw [Int.toNat_natCast]
      have hp64 : (2 : Int) ^ (6 * fs.length - 8 * octN fs) = ((2 ^ (6 * fs.length - 8 * octN fs) : Nat) : Int) := by norm_cast
      have hpos : 0 < 2 ^ (6 * fs.length - 8 * octN fs) := Nat.pow_pos (by decide)
      have hlt : 2 ^ (6 * fs.length - 8 * octN fs) ≤ 2 ^ 6 := Nat.pow_le_pow_right (by decide) hexp6
      rw [hp64]
      refine inp_div (by omega) (by rw [Int.natAbs_natCast]; exact Nat.lt_of_le_of_lt hlt (by decide +kernel)) ?_
      have hw : (((figVal fs : Nat) : Int)).fdiv ((2 ^ (6 * fs.length - 8 * octN fs) : Nat) : Int) = ((octW fs : Nat) : Int) := by
        rw [Int.fdiv_eq_ediv_of_nonneg _ (by omega)]
        rfl
      rw [hw]
      repeat walk_at "v1"
      have hcs := K.cell (Str.ofString "size") (by kernel_rfl)
      have hcw := K.cell (Str.ofString "whole") (by kernel_rfl)
      refine ev_listcomp (x := Str.ofString "k") (pe := fun _ => true) (fe := fun z => match z with | .int k => .int (((octW fs : Nat) : Int).fdiv (256 ^ (((octN fs : Nat) : Int) - 1 - k).toNat) |>.fmod 256) | v => v) O' ⟨by decide, rfl, by decide, by decide, ?_⟩ ?_
      · intro y hy hfr
        rcases List.mem_cons.mp hy with rfl | hy
        · cases hfr
        rcases List.mem_cons.mp hy with rfl | hy
        · cases hfr
        rcases List.mem_cons.mp hy with rfl | hy
        · exact hcs
        rcases List.mem_cons.mp hy with rfl | hy
        · exact hcw
        · cases hy
      · repeat walk_at "v1"
        refine ca_range ?_
        intro ra hra
        repeat walk_at "v1"
        have hN : octN fs ≤ 75 := Nat.div_le_div_right (c := 4) (Nat.mul_le_mul_right 3 hl)
        refine ⟨(List.range (octN fs)).map fun k => .int (k : Nat), ⟨ra, rfl, .inr ⟨_, by omega, by omega, set_self, by rw [Int.toNat_natCast]⟩⟩, by rw [List.length_map, List.length_range]; omega, ?_, ?_⟩
        · intro env' hh z hz ce
          obtain ⟨k, hk, rfl⟩ := List.mem_map.mp hz
          have hk := List.mem_range.mp hk
          refine ⟨rfl, fun _ => ?_⟩
          obtain ⟨hv1, m3, wv, hns, hmx, hab⟩ := ce.var
          obtain ⟨s1, cs, ws, s2, s3, s4⟩ := ce.cell (Str.ofString "size") 1 _ (by decide) (by decide) n1 rfl
          obtain ⟨t1, ct, wt, t2, t3, t4⟩ := ce.cell (Str.ofString "whole") 2 _ (by decide) (by decide) n2 rfl
          have he : ((octN fs : Nat) : Int) - 1 - (k : Int) = ((octN fs - 1 - k : Nat) : Int) := cast_sub2 hk
          have hexp : 256 ^ (octN fs - 1 - k) ≤ 256 ^ 75 := Nat.pow_le_pow_right (by decide) (by omega)
          refine pe_bin (pe_bin (pe_cell ce.kind t1 t2 t3 t4) (pe_bin pe_int (pe_bin (pe_bin (pe_cell ce.kind s1 s2 s3 s4) pe_int pop_sub) (pe_local ce.kind hv1 hns hmx hab) pop_sub) (pop_pow (by omega) ?_)) (pop_div ?_ ?_)) pe_int (pop_mod (by decide))
          · rw [show Builtin.Int.intBits 256 = 9 from by decide]; omega
          · rw [he, Int.toNat_natCast]
            exact Int.ne_of_gt (Int.pow_pos (by decide))
          · rw [he, Int.toNat_natCast, Int.natAbs_pow]
            exact Nat.lt_of_le_of_lt hexp (by decide +kernel)
        · intro la hla
          repeat walk_at "v1"
          refine ca_bytes O' (ns := (octF fs).map fun n : Nat => (n : Int)) ?_ ?_ ?_ ?_
          · rw [set_self]
            refine congrArg (fun l => some (PO.list l)) ?_
            rw [List.filter_eq_self.mpr (fun _ _ => rfl), List.map_map, List.map_map]
            unfold octF
            rw [List.map_map]
            refine List.map_congr_left fun k hk => ?_
            have hk := List.mem_range.mp hk
            have he : ((octN fs : Nat) : Int) - 1 - (k : Int) = ((octN fs - 1 - k : Nat) : Int) := cast_sub2 hk
            show PV.int _ = PV.int _
            refine congrArg PV.int ?_
            rw [he, Int.toNat_natCast]
            have hp : (256 : Int) ^ (octN fs - 1 - k) = ((256 ^ (octN fs - 1 - k) : Nat) : Int) := by norm_cast
            rw [hp, Int.fdiv_eq_ediv_of_nonneg _ (Int.natCast_nonneg _), Int.fmod_eq_emod_of_nonneg _ (by decide)]
            rfl
          · intro n hn
            obtain ⟨w, hw, rfl⟩ := List.mem_map.mp hn
            obtain ⟨k, _, rfl⟩ := List.mem_map.mp hw
            have := Nat.mod_lt (octW fs / 256 ^ (octN fs - 1 - k)) (show 0 < 256 by decide)
            omega
          · unfold octF
            rw [List.length_map, List.length_map, List.length_range]
            omega
          · repeat walk_at "v1"
            show Q _ _
            rw [show bts ((octF fs).map fun n : Nat => (n : Int)) = (octF fs).map (·.toUInt8) from ?_]
            · exact h _ ((hE1.trans (Ext.set hra)).trans (Ext.set hla))
            · unfold bts
              rw [List.map_map]
              rfl
noncomputable def rowVal (row : List UInt8) : Nat := row.foldl (fun w o => w * 256 + o.toNat) 0
noncomputable def figN (row : List UInt8) : Nat := (4 * row.length + 2) / 3
noncomputable def figW (row : List UInt8) : Nat := rowVal row * 2 ^ (6 * figN row - 8 * row.length)
noncomputable def figF (row : List UInt8) : List Nat := (List.range (figN row)).map fun k => figW row / 64 ^ (figN row - 1 - k) % 64
theorem rowVal_take {row : List UInt8} {k : Nat} {o : UInt8} (h : row[k]? = some o) : rowVal (row.take (k + 1)) = rowVal (row.take k) * 256 + o.toNat := by
  unfold rowVal
  rw [List.take_add_one, h]
  simp
theorem spec_figures {C : Cx} {m : Loc} {H : PH} {Q : PV → PH → Prop} (O : C.Ok) (F : KF C.K) (hr : C.A.depth < recursionLimit) {row : List UInt8} (hl : row.length ≤ 80)
    (h : ∀ H' a, Ext H H' → H' a = some (.list ((figF row).map fun n : Nat => .int (n : Int))) → H a = none → Q (.ref a) H') : Ca C m (.ref 174) [.bytes row] [] H Q := by
  refine call_fn O (by omega) [(Str.ofString "row", .bytes row)] F.f29.at_ F.f29.code ?_ (loc_of (by kernel_rfl)) (by decide +kernel) (by decide +kernel) (by decide +kernel) (by kernel_rfl) (by kernel_rfl) (by kernel_rfl) ?_
  · intro s vs ks X hv hk
    obtain ⟨v, rfl, hv'⟩ := args1 hv
    cases kws0 hk
    exact ⟨[(Str.ofString "row", v)], BindsTo.of_eq (by kernel_rfl), by simp [hv']⟩
  · intro C' K
    obtain ⟨L', henv⟩ := K.env
    have n0 : C'.env.scope.names[0]? = some (Str.ofString "row", NameKind.local) := by rw [K.scope]; rfl
    have w0 : Slot' C' (Str.ofString "row") 0 := .inl n0
    have n1 : C'.env.scope.names[1]? = some (Str.ofString "count", NameKind.cell) := by rw [K.scope]; rfl
    have w1 : Slot' C' (Str.ofString "count") 1 := .inr ⟨n1, K.cell _ (by kernel_rfl)⟩
    have n2 : C'.env.scope.names[2]? = some (Str.ofString "whole", NameKind.cell) := by rw [K.scope]; rfl
    have w2 : Slot' C' (Str.ofString "whole") 2 := .inr ⟨n2, K.cell _ (by kernel_rfl)⟩
    have n3 : C'.env.scope.names[3]? = some (Str.ofString "octet", NameKind.local) := by rw [K.scope]; rfl
    have w3 : Slot' C' (Str.ofString "octet") 3 := .inl n3
    have g4 : C'.env.kindOf (Str.ofString "len") = some .globalImplicit := kind_is K.scope (by kernel_rfl)
    have g5 : C'.env.kindOf (Str.ofString "range") = some .globalImplicit := kind_is K.scope (by kernel_rfl)
    have O' := K.ok
    have F' := K.kf F
    have hin := inter_of O'
    have b4 := is_len O' F' g4
    have b5 := is_range O' F' g5
    rw [show initLoc (scopeN 29).names [(Str.ofString "row", PV.bytes row)].reverse = [some (.bytes row), none, none, none, none, none] by kernel_rfl]
    refine exs_letm ?_
    intro M0
    refine exs_cons ?_
    refine ex_unp2 O' w1 w2 ?_ (by with_unfolding_all rfl) (by rw [henv]; kernel_rfl)
    repeat walk_at "v1"
    refine ca_len_bytes (by omega) ?_
    repeat walk_at "v1"
    refine bin_mul (.inl (by decide)) ?_
    repeat walk_at "v1"
    refine bin_div (by decide) (by decide) ?_
    repeat walk_at "v1"
    refine ⟨by simp, fun ta hta => ⟨ta, _, _, rfl, set_self, ?_⟩⟩
    have hsz : (4 * (row.length : Int) + 2).fdiv 3 = ((figN row : Nat) : Int) := by
      rw [Int.fdiv_eq_ediv_of_nonneg _ (by decide)]
      rfl
    rw [hsz]
    have hE0 : Ext H (H.set ta (.tuple [.int (figN row : Nat), .int 0])) := Ext.set hta
    generalize (H.set ta (.tuple [.int (figN row : Nat), .int 0])) = H0 at hE0 ⊢
    repeat walk_at "v1"
    refine ex_for_bytes O' w3 row (fun k m1 H1 => ∃ x3, m1 = [some (.bytes row), some (.int (figN row : Nat)), some (.int (rowVal (row.take k) : Nat)), x3, none, none] ∧ Ext H H1) ?_ ?_ ?_ (by intro _; with_unfolding_all rfl)
    · repeat walk_at "v1"
      exact ⟨rfl, none, rfl, hE0⟩
    · rintro k o m1 H1 hk ⟨x3, rfl, hE1⟩
      refine exs_cons ?_
      repeat walk_at "v1"
      refine bin_mul (.inr (by decide)) ?_
      repeat walk_at "v1"
      refine ⟨some (.int o.toNat), ?_, hE1⟩
      rw [rowVal_take hk]
      rfl
    · rintro m1 H1 ⟨x3, rfl, hE1⟩
      rw [List.take_length]
      repeat walk_at "v1"
      refine bin_mul (.inl (by decide)) ?_
      repeat walk_at "v1"
      refine ca_len_bytes (by omega) ?_
      repeat walk_at "v1"
      refine bin_mul (.inl (by decide)) ?_
      repeat walk_at "v1"
      have hN1 : 3 * figN row ≤ 4 * row.length + 2 := Nat.mul_div_le _ _
      have hN2 : 4 * row.length + 2 < 3 * (figN row + 1) := Nat.lt_mul_div_succ _ (by decide)
      have hle6 : 8 * row.length ≤ 6 * figN row := by omega
      have hexp : 6 * ((figN row : Nat) : Int) - 8 * (row.length : Int) = ((6 * figN row - 8 * row.length : Nat) : Int) := (Int.ofNat_sub hle6).symm
      have hexp6 : 6 * figN row - 8 * row.length ≤ 6 := by omega
      rw [hexp]
      refine bin_pow (by omega) (by rw [show Builtin.Int.intBits 2 = 2 from by decide]; omega) ?_
      rw [Int.toNat_natCast]
      have hp64 : (2 : Int) ^ (6 * figN row - 8 * row.length) = ((2 ^ (6 * figN row - 8 * row.length) : Nat) : Int) := by norm_cast
      have hlt : 2 ^ (6 * figN row - 8 * row.length) ≤ 2 ^ 6 := Nat.pow_le_pow_right (by decide) hexp6
      rw [hp64]
      refine inp_mul (.inr (by rw [Int.natAbs_natCast]; exact Nat.lt_of_le_of_lt hlt (by decide +kernel))) ?_
      have hw : ((rowVal row : Nat) : Int) * ((2 ^ (6 * figN row - 8 * row.length) : Nat) : Int) = ((figW row : Nat) : Int) := by
        unfold figW
        rw [Int.natCast_mul]
      rw [hw]
      repeat walk_at "v1"
      have hcs := K.cell (Str.ofString "count") (by kernel_rfl)
      have hcw := K.cell (Str.ofString "whole") (by kernel_rfl)
      refine ev_listcomp (x := Str.ofString "k") (pe := fun _ => true) (fe := fun z => match z with | .int k => .int (((figW row : Nat) : Int).fdiv (64 ^ (((figN row : Nat) : Int) - 1 - k).toNat) |>.fmod 64) | v => v) O' ⟨by decide, rfl, by decide, by decide, ?_⟩ ?_
      · intro y hy hfr
        rcases List.mem_cons.mp hy with rfl | hy
        · cases hfr
        rcases List.mem_cons.mp hy with rfl | hy
        · cases hfr
        rcases List.mem_cons.mp hy with rfl | hy
        · exact hcs
        rcases List.mem_cons.mp hy with rfl | hy
        · exact hcw
        · cases hy
      · repeat walk_at "v1"
        refine ca_range ?_
        intro ra hra
        repeat walk_at "v1"
        have hN : figN row ≤ 107 := Nat.div_le_div_right (c := 3) (Nat.add_le_add_right (Nat.mul_le_mul_left 4 hl) 2)
        refine ⟨(List.range (figN row)).map fun k => .int (k : Nat), ⟨ra, rfl, .inr ⟨_, by omega, by omega, set_self, by rw [Int.toNat_natCast]⟩⟩, by rw [List.length_map, List.length_range]; omega, ?_, ?_⟩
        · intro env' hh z hz ce
          obtain ⟨k, hk, rfl⟩ := List.mem_map.mp hz
          have hk := List.mem_range.mp hk
          refine ⟨rfl, fun _ => ?_⟩
          obtain ⟨hv1, m3, wv, hns, hmx, hab⟩ := ce.var
          obtain ⟨s1, cs, ws, s2, s3, s4⟩ := ce.cell (Str.ofString "count") 1 _ (by decide) (by decide) n1 rfl
          obtain ⟨t1, ct, wt, t2, t3, t4⟩ := ce.cell (Str.ofString "whole") 2 _ (by decide) (by decide) n2 rfl
          have he : ((figN row : Nat) : Int) - 1 - (k : Int) = ((figN row - 1 - k : Nat) : Int) := cast_sub2 hk
          have hexp : 64 ^ (figN row - 1 - k) ≤ 64 ^ 107 := Nat.pow_le_pow_right (by decide) (by omega)
          refine pe_bin (pe_bin (pe_cell ce.kind t1 t2 t3 t4) (pe_bin pe_int (pe_bin (pe_bin (pe_cell ce.kind s1 s2 s3 s4) pe_int pop_sub) (pe_local ce.kind hv1 hns hmx hab) pop_sub) (pop_pow (by omega) ?_)) (pop_div ?_ ?_)) pe_int (pop_mod (by decide))
          · rw [show Builtin.Int.intBits 64 = 7 from by decide]; omega
          · rw [he, Int.toNat_natCast]
            exact Int.ne_of_gt (Int.pow_pos (by decide))
          · rw [he, Int.toNat_natCast, Int.natAbs_pow]
            exact Nat.lt_of_le_of_lt hexp (by decide +kernel)
        · intro la hla
          repeat walk_at "v1"
          show Q _ _
          refine h _ la ((hE1.trans (Ext.set hra)).trans (Ext.set hla)) ?_ ?_
          · rw [set_self]
            refine congrArg (fun l => some (PO.list l)) ?_
            rw [List.filter_eq_self.mpr (fun _ _ => rfl), List.map_map]
            unfold figF
            rw [List.map_map]
            refine List.map_congr_left fun k hk => ?_
            have hk := List.mem_range.mp hk
            have he : ((figN row : Nat) : Int) - 1 - (k : Int) = ((figN row - 1 - k : Nat) : Int) := cast_sub2 hk
            show PV.int _ = PV.int _
            refine congrArg PV.int ?_
            rw [he, Int.toNat_natCast]
            have hp : (64 : Int) ^ (figN row - 1 - k) = ((64 ^ (figN row - 1 - k) : Nat) : Int) := by norm_cast
            rw [hp, Int.fdiv_eq_ediv_of_nonneg _ (Int.natCast_nonneg _), Int.fmod_eq_emod_of_nonneg _ (by decide)]
            rfl
          · exact (hE1.trans (Ext.set hra)).gone hla
noncomputable def dueMsg (n : Nat) : List Nat := (Str.ofString "Invalid base64-encoded string: number of data characters (").cps.toList ++ (Str.ofString (toString (n : Int))).cps.toList ++ (Str.ofString ") cannot be 1 more than a multiple of 4").cps.toList
noncomputable def padMsg : List Nat := (Str.ofString "Incorrect padding").cps.toList
noncomputable def dueF (fs : List Nat) (filled : Bool) : PV := if fs.length % 4 = 1 then .str (dueMsg fs.length) else if fs.length % 4 ≠ 0 ∧ filled = false then .str padMsg else .bytes ((octF fs).map (·.toUInt8))
theorem lenStr : ∀ n < 101, (Str.ofString (toString ((n : Nat) : Int))).cps.toList.length ≤ 3 := by decide +kernel
theorem spec_due {C : Cx} {m : Loc} {H : PH} {Q : PV → PH → Prop} (O : C.Ok) (F : KF C.K) (hr : C.A.depth + 1 < recursionLimit) {fs : List Nat} {fa : Addr} {filled : Bool} (hf : H fa = some (.list (fs.map fun n => .int (n : Nat)))) (hl : fs.length ≤ 100) (hf64 : fa ≠ 64)
    (h : ∀ H', Ext H H' → Q (dueF fs filled) H') : Ca C m (.ref 195) [.ref fa, .bool filled] [] H Q := by
  refine call_fn O (by omega) [(Str.ofString "figures", .ref fa), (Str.ofString "filled", .bool filled)] F.f32.at_ F.f32.code ?_ (loc_of (by kernel_rfl)) (by decide +kernel) (by decide +kernel) (by decide +kernel) (by kernel_rfl) (by kernel_rfl) (by kernel_rfl) ?_
  · intro s vs ks X hv hk
    obtain ⟨v, u, rfl, hv', hu'⟩ := args2 hv
    cases kws0 hk
    exact ⟨[(Str.ofString "figures", v), (Str.ofString "filled", u)], BindsTo.of_eq (by kernel_rfl), by simp [hv', hu']⟩
  · intro C' K
    obtain ⟨L', henv⟩ := K.env
    have n0 : C'.env.scope.names[0]? = some (Str.ofString "figures", NameKind.local) := by rw [K.scope]; rfl
    have w0 : Slot' C' (Str.ofString "figures") 0 := .inl n0
    have n1 : C'.env.scope.names[1]? = some (Str.ofString "filled", NameKind.local) := by rw [K.scope]; rfl
    have w1 : Slot' C' (Str.ofString "filled") 1 := .inl n1
    have n2 : C'.env.scope.names[2]? = some (Str.ofString "over", NameKind.local) := by rw [K.scope]; rfl
    have w2 : Slot' C' (Str.ofString "over") 2 := .inl n2
    have g3 : C'.env.kindOf (Str.ofString "len") = some .globalImplicit := kind_is K.scope (by kernel_rfl)
    have g4 : C'.env.kindOf (Str.ofString "str") = some .globalImplicit := kind_is K.scope (by kernel_rfl)
    have g5 : C'.env.kindOf (Str.ofString "_law_octets") = some .globalImplicit := kind_is K.scope (by kernel_rfl)
    have O' := K.ok
    have F' := K.kf F
    have hin := inter_of O'
    have b3 := is_len O' F' g3
    have b4 := is_str O' F' g4
    have b5 := is_F O' g5 F'.f28 (by decide)
    have q5 := kp_K O' F'.f28.keep
    have hd := K.depth
    rw [show initLoc (scopeN 32).names [(Str.ofString "figures", PV.ref fa), (Str.ofString "filled", PV.bool filled)].reverse = [some (.ref fa), some (.bool filled), none, none, none, none] by kernel_rfl]
    refine exs_letm ?_
    intro M0
    refine exs_cons ?_
    repeat walk_at "v1"
    refine ca_len_list hf (by rw [List.length_map]; omega) ?_
    rw [List.length_map]
    repeat walk_at "v1"
    have hm : (fs.length : Int).fmod 4 = ((fs.length % 4 : Nat) : Int) := by
      rw [Int.fmod_eq_emod_of_nonneg _ (by decide)]
      rfl
    refine bin_mod (by decide) ?_
    rw [hm]
    repeat walk_at "v1"
    refine ite_eqI (fun h1 => ?_) (fun h1 => ?_)
    · repeat walk_at "v1"
      refine ca_len_list hf (by rw [List.length_map]; omega) ?_
      rw [List.length_map]
      repeat walk_at "v1"
      refine ca_strInt (by rw [Int.natAbs_natCast]; exact Nat.lt_of_le_of_lt hl (by decide +kernel)) ?_
      repeat walk_at "v1"
      have l1 : (Str.ofString "Invalid base64-encoded string: number of data characters (").cps.toList.length ≤ 100 := by decide +kernel
      have l2 := lenStr fs.length (by omega)
      have l3 : (Str.ofString ") cannot be 1 more than a multiple of 4").cps.toList.length ≤ 100 := by decide +kernel
      refine bin_addS (by omega) ?_
      repeat walk_at "v1"
      refine bin_addS (by rw [List.length_append]; omega) ?_
      repeat walk_at "v1"
      show Q _ _
      have hq : dueF fs filled = .str (dueMsg fs.length) := by
        unfold dueF
        rw [if_pos (by omega)]
      have := h H Ext.refl
      rw [hq] at this
      exact this
    · have ho : fs.length % 4 ≠ 1 := by omega
      repeat walk_at "v1"
      refine ite_neI (fun h2 => ?_) (fun h2 => ?_)
      · repeat walk_at "v1"
        cases filled with
        | false =>
          repeat walk_at "v1"
          refine ite_bT rfl ?_
          show Exs C' _ _ H _
          repeat walk_at "v1"
          show Q _ _
          have hq : dueF fs false = .str padMsg := by
            unfold dueF
            rw [if_neg ho, if_pos ⟨by omega, rfl⟩]
          have := h H Ext.refl
          rw [hq] at this
          exact this
        | true =>
          repeat walk_at "v1"
          refine ite_bF rfl ?_
          refine ite_bF rfl ?_
          repeat walk_at "v1"
          refine spec_octets O' F' (by omega) hf hl hf64 fun H' hE => ?_
          repeat walk_at "v1"
          show Q _ _
          have hq : dueF fs true = .bytes ((octF fs).map (·.toUInt8)) := by
            unfold dueF
            rw [if_neg ho, if_neg (fun e => nomatch e.2)]
          have := h H' hE
          rw [hq] at this
          exact this
      · refine ite_bF rfl ?_
        repeat walk_at "v1"
        refine spec_octets O' F' (by omega) hf hl hf64 fun H' hE => ?_
        repeat walk_at "v1"
        show Q _ _
        have hq : dueF fs filled = .bytes ((octF fs).map (·.toUInt8)) := by
          unfold dueF
          rw [if_neg ho, if_neg (fun e => by have := e.1; omega)]
        have := h H' hE
        rw [hq] at this
        exact this
/-! the pure a2b_base64: its state, one sign, the run and the end -/
structure A2 where
  out : List Int
  quad : Nat
  left : Nat
  pads : Nat
  i : Nat
inductive A2R where
  | go (s : A2)
  | stop (s : A2)
  | bad (msg : List Nat)
noncomputable def cpsOf (x : Str) : List Nat := x.cps.toList
noncomputable def a2put (s : A2) (v : Nat) : A2 :=
  if s.quad = 0 then ⟨s.out, 1, v, 0, s.i + 1⟩
  else if s.quad = 1 then ⟨s.out ++ [((s.left * 4 + v / 16 : Nat) : Int)], 2, v % 16, 0, s.i + 1⟩
  else if s.quad = 2 then ⟨s.out ++ [((s.left * 16 + v / 4 : Nat) : Int)], 3, v % 4, 0, s.i + 1⟩
  else ⟨s.out ++ [((s.left * 64 + v : Nat) : Int)], 0, 0, 0, s.i + 1⟩
noncomputable def a2step (strict : Bool) (s : A2) (c : UInt8) : A2R :=
  if c.toNat = 61 then
    let p := { s with pads := s.pads + 1 }
    if 2 ≤ s.quad ∧ s.quad + s.pads + 1 ≤ 4 then .go { p with i := s.i + 1 }
    else if strict = false then .go { p with i := s.i + 1 }
    else if s.quad = 1 then .stop p
    else if s.quad = 0 ∧ s.i = 0 then .bad (cpsOf (Str.ofString "Leading padding not allowed"))
    else .bad (cpsOf (Str.ofString "Excess padding not allowed"))
  else if 64 ≤ b64v c.toNat then
    if strict = true then .bad (cpsOf (Str.ofString "Only base64 data is allowed")) else .go { s with i := s.i + 1 }
  else if s.pads ≠ 0 ∧ strict = true then
    if s.quad + s.pads = 4 then .bad (cpsOf (Str.ofString "Excess data after padding"))
    else .bad (cpsOf (Str.ofString "Discontinuous padding not allowed"))
  else .go (a2put s (b64v c.toNat).toNat)
noncomputable def a2run (strict : Bool) : A2 → List UInt8 → A2R
  | s, [] => .go s
  | s, c :: r => match a2step strict s c with
    | .go s' => a2run strict s' r
    | e => e
/-- what comes out: the octets, or the message of the Error -/
noncomputable def a2end (s : A2) : Except (List Nat) (List Int) :=
  if s.quad = 1 then .error (dueMsg (s.out.length / 3 * 4 + 1))
  else if s.quad ≠ 0 ∧ s.quad + s.pads < 4 then .error padMsg
  else .ok s.out
noncomputable def a2F (strict : Bool) (row : List UInt8) : Except (List Nat) (List Int) := match a2run strict ⟨[], 0, 0, 0, 0⟩ row with
  | .go s => a2end s
  | .stop s => a2end s
  | .bad msg => .error msg
theorem a2run_app (strict : Bool) : ∀ (r r' : List UInt8) (s : A2), a2run strict s (r ++ r') = match a2run strict s r with
    | .go s' => a2run strict s' r'
    | e => e
  | [], r', s => rfl
  | c :: r, r', s => by
    have e1 : ∀ t, a2run strict s (c :: t) = match a2step strict s c with | .go s' => a2run strict s' t | e => e := fun _ => rfl
    rw [List.cons_append, e1, e1]
    cases a2step strict s c with
    | go s' => exact a2run_app strict r r' s'
    | stop s' => rfl
    | bad m => rfl
/-! digits of a number, read back -/
noncomputable def valB (B : Nat) (xs : List Nat) : Nat := xs.foldl (fun w x => w * B + x) 0
theorem valB_snoc (B : Nat) (xs : List Nat) (x : Nat) : valB B (xs ++ [x]) = valB B xs * B + x := by
  unfold valB
  rw [List.foldl_append]
  rfl
noncomputable def digB (B n V : Nat) : List Nat := (List.range n).map fun k => V / B ^ (n - 1 - k) % B
theorem digB_snoc {B : Nat} (hB : 0 < B) {n V x : Nat} (hx : x < B) : digB B (n + 1) (V * B + x) = digB B n V ++ [x] := by
  unfold digB
  rw [List.range_succ, List.map_append]
  congr 1
  · refine List.map_congr_left fun k hk => ?_
    have hk := List.mem_range.mp hk
    have e : n + 1 - 1 - k = (n - 1 - k) + 1 := by omega
    rw [e, Nat.pow_succ, Nat.mul_comm (B ^ _) B, ← Nat.div_div_eq_div_mul, Nat.mul_comm V B, Nat.mul_add_div hB, Nat.div_eq_of_lt hx, Nat.add_zero]
  · show [(V * B + x) / B ^ (n + 1 - 1 - n) % B] = [x]
    have e : n + 1 - 1 - n = 0 := by omega
    rw [e, Nat.pow_zero, Nat.div_one, Nat.mul_comm V B, Nat.mul_add_mod, Nat.mod_eq_of_lt hx]
theorem digB_valB {B : Nat} (hB : 0 < B) : ∀ (n : Nat) (xs : List Nat), xs.length = n → (∀ x ∈ xs, x < B) → digB B n (valB B xs) = xs
  | 0, xs, hl, _ => by
    cases xs with
    | nil => rfl
    | cons _ _ => cases hl
  | n + 1, xs, hl, h => by
    have hne : xs ≠ [] := fun e => by rw [e] at hl; cases hl
    have hd := List.dropLast_concat_getLast hne
    have hn : xs.dropLast.length = n := by rw [List.length_dropLast, hl]; rfl
    rw [← hd, valB_snoc, digB_snoc hB (h _ (List.getLast_mem hne)), digB_valB hB n _ hn fun x hx => h x ((List.dropLast_sublist xs).subset hx)]
theorem octF_dig (fs : List Nat) : octF fs = digB 256 (octN fs) (octW fs) := rfl
theorem figF_dig (row : List UInt8) : figF row = digB 64 (figN row) (figW row) := rfl
theorem figVal_valB (fs : List Nat) : figVal fs = valB 64 fs := rfl
/-! the pure a2b_base64 over n figures without filling -/
/-- how the state holds the number of the figures read -/
structure A2Ok (V n : Nat) (s : A2) (o : List Nat) : Prop where
  out : s.out = o.map fun x : Nat => (x : Int)
  oct : ∀ x ∈ o, x < 256
  quad : s.quad = n % 4
  len : o.length = n * 3 / 4
  pads : s.pads = 0
  i : s.i = n
  left : s.left < 2 ^ (6 * n - 8 * (n * 3 / 4))
  val : V = valB 256 o * 2 ^ (6 * n - 8 * (n * 3 / 4)) + s.left
theorem oct_r (q r : Nat) : (4 * q + r) * 3 / 4 = 3 * q + r * 3 / 4 := by
  rw [Nat.add_mul, Nat.mul_assoc, Nat.mul_comm q 3, Nat.mul_add_div (by decide)]
theorem bit6 (q r : Nat) : 6 * (4 * q + r) - 8 * ((4 * q + r) * 3 / 4) = 6 * r - 8 * (r * 3 / 4) := by
  rw [oct_r, Nat.mul_add, Nat.mul_add, ← Nat.mul_assoc 6 4 q, ← Nat.mul_assoc 8 3 q, Nat.add_sub_add_left]
theorem A2Ok.of {V q r quad left : Nat} {o : List Nat} (h2 : ∀ x ∈ o, x < 256) (hq : quad = r % 4) (hl : o.length = 3 * q + r * 3 / 4) (h7 : left < 2 ^ (6 * r - 8 * (r * 3 / 4))) (h8 : V = valB 256 o * 2 ^ (6 * r - 8 * (r * 3 / 4)) + left) :
    A2Ok V (4 * q + r) ⟨o.map fun x : Nat => (x : Int), quad, left, 0, 4 * q + r⟩ o :=
  ⟨rfl, h2, hq.trans (Nat.mul_add_mod 4 q r).symm, hl.trans (oct_r q r).symm, rfl, rfl, by rw [bit6]; exact h7, by rw [bit6]; exact h8⟩
theorem put_val (W L v c d k : Nat) (hc : c * 64 = 256 * d) (hk : k * d = 64) : (W * c + L) * 64 + v = (W * 256 + (L * k + v / d)) * d + v % d := by
  rw [Nat.add_mul, Nat.mul_assoc, hc, Nat.add_mul (W * 256), Nat.add_mul (L * k), Nat.mul_assoc W, Nat.mul_assoc L, hk, Nat.add_assoc, Nat.add_assoc, Nat.add_assoc, Nat.div_add_mod']
theorem put_lt {L v c d k : Nat} (hL : L < c) (hk : c * k = 256) (hv : v / d < k) : L * k + v / d < 256 :=
  Nat.lt_of_lt_of_le (Nat.add_lt_add_left hv _) (by rw [← Nat.succ_mul, ← hk]; exact Nat.mul_le_mul_right k hL)
theorem A2Ok.put {V n : Nat} {s : A2} {o : List Nat} (h : A2Ok V n s o) {v : Nat} (hv : v < 64) : ∃ o', A2Ok (V * 64 + v) (n + 1) (a2put s v) o' := by
  obtain ⟨h1, h2, h3, h4, h5, h6, h7, h8⟩ := h
  obtain ⟨out, quad, left, pads, i⟩ := s
  dsimp only at h1 h3 h5 h6 h7 h8
  subst h1 h5 h6 h3
  have hput : ∀ y : Nat, y < 256 → (∀ x ∈ o ++ [y], x < 256) := fun y hy x hx => by
    rcases List.mem_append.mp hx with h | h
    · exact h2 x h
    · cases List.mem_singleton.mp h; exact hy
  have hmap : ∀ y : Nat, (o.map fun x : Nat => (x : Int)) ++ [(y : Int)] = (o ++ [y]).map fun x : Nat => (x : Int) := fun y => by rw [List.map_append]; rfl
  obtain ⟨q, r, hn, hr⟩ : ∃ q r, i = 4 * q + r ∧ r < 4 := ⟨i / 4, i % 4, (Nat.div_add_mod i 4).symm, Nat.mod_lt _ (by decide)⟩
  subst hn
  rw [oct_r] at h4
  rw [bit6] at h7 h8
  subst h8
  match r, hr with
  | 0, _ =>
    rw [show (4 * q + 0) % 4 = 0 from Nat.mul_add_mod 4 q 0]
    cases Nat.lt_one_iff.mp h7
    exact ⟨o, A2Ok.of (q := q) (r := 1) h2 rfl h4 hv (by show (valB 256 o * 1 + 0) * 64 + v = _; rw [Nat.mul_one, Nat.add_zero])⟩
  | 1, _ =>
    rw [show (4 * q + 1) % 4 = 1 from Nat.mul_add_mod 4 q 1]
    show ∃ o', A2Ok _ _ ⟨_ ++ [((left * 4 + v / 16 : Nat) : Int)], 2, v % 16, 0, _⟩ o'
    rw [hmap]
    exact ⟨_, A2Ok.of (q := q) (r := 2) (hput _ (put_lt h7 rfl (Nat.div_lt_of_lt_mul hv))) rfl (by rw [List.length_append, h4]; rfl) (Nat.mod_lt v (by decide : 0 < 16)) (by rw [valB_snoc]; exact put_val _ _ _ _ _ _ rfl rfl)⟩
  | 2, _ =>
    rw [show (4 * q + 2) % 4 = 2 from Nat.mul_add_mod 4 q 2]
    show ∃ o', A2Ok _ _ ⟨_ ++ [((left * 16 + v / 4 : Nat) : Int)], 3, v % 4, 0, _⟩ o'
    rw [hmap]
    exact ⟨_, A2Ok.of (q := q) (r := 3) (hput _ (put_lt h7 rfl (Nat.div_lt_of_lt_mul hv))) rfl (by rw [List.length_append, h4]; rfl) (Nat.mod_lt v (by decide : 0 < 4)) (by rw [valB_snoc]; exact put_val _ _ _ _ _ _ rfl rfl)⟩
  | 3, _ =>
    rw [show (4 * q + 3) % 4 = 3 from Nat.mul_add_mod 4 q 3]
    show ∃ o', A2Ok _ _ ⟨_ ++ [((left * 64 + v : Nat) : Int)], 0, 0, 0, _⟩ o'
    rw [hmap]
    have hv1 : v / 1 < 64 := by rw [Nat.div_one]; exact hv
    have hy := put_lt h7 rfl hv1
    have hval := put_val (valB 256 o) left v 4 1 64 rfl rfl
    rw [Nat.div_one] at hy hval
    exact ⟨_, A2Ok.of (q := q) (r := 4) (hput _ hy) rfl (by rw [List.length_append, h4]; rfl) (by decide) (by rw [valB_snoc]; rw [Nat.mod_one] at hval; exact hval)⟩
/-- the signs `cs` stand for the figures `fs` -/
inductive Figs : List UInt8 → List Nat → Prop where
  | nil : Figs [] []
  | cons {c : UInt8} {f : Nat} {cs fs} (hc : c.toNat ≠ 61) (hv : b64v c.toNat = (f : Int)) (hf : f < 64) (r : Figs cs fs) : Figs (c :: cs) (f :: fs)
theorem a2run_figs (strict : Bool) : ∀ {cs : List UInt8} {fs : List Nat}, Figs cs fs → ∀ {V n : Nat} {s : A2} {o : List Nat}, A2Ok V n s o → ∃ s' o', a2run strict s cs = .go s' ∧ A2Ok (fs.foldl (fun w f => w * 64 + f) V) (n + fs.length) s' o'
  | _, _, .nil, _, _, s, o, h => ⟨s, o, rfl, h⟩
  | _, _, .cons (c := c) (f := f) (cs := cs) (fs := fs) hc hv hf r, V, n, s, o, h => by
    obtain ⟨o', h'⟩ := h.put hf
    obtain ⟨s'', o'', e, h''⟩ := a2run_figs strict r h'
    refine ⟨s'', o'', ?_, by rw [List.length_cons, show n + (fs.length + 1) = n + 1 + fs.length by omega]; exact h''⟩
    have e1 : a2run strict s (c :: cs) = match a2step strict s c with | .go s' => a2run strict s' cs | e => e := rfl
    have e2 : a2step strict s c = .go (a2put s f) := by
      unfold a2step
      rw [if_neg hc, if_neg (by rw [hv]; omega), if_neg (fun e => e.1 h.pads), hv, Int.toNat_natCast]
    rw [e1, e2]
    exact e
theorem a2ok_start : A2Ok 0 0 ⟨[], 0, 0, 0, 0⟩ [] := ⟨rfl, (by intro _ h; cases h), rfl, rfl, rfl, rfl, by decide, rfl⟩
theorem A2Ok.octF {fs : List Nat} {s : A2} {o : List Nat} (h : A2Ok (figVal fs) fs.length s o) : Mine.octF fs = o := by
  rw [octF_dig]
  have hn : octN fs = o.length := by rw [h.len]; rfl
  have hw : octW fs = valB 256 o := by
    unfold octW
    rw [show 6 * fs.length - 8 * octN fs = 6 * fs.length - 8 * (fs.length * 3 / 4) from rfl, h.val, Nat.mul_comm (valB 256 o), Nat.mul_add_div (Nat.pow_pos (by decide)), Nat.div_eq_of_lt h.left, Nat.add_zero]
  rw [hn, hw]
  exact digB_valB (by decide) _ _ rfl h.oct
/-- no filling: what comes out -/
theorem a2F_bare {cs : List UInt8} {fs : List Nat} (hf : Figs cs fs) : a2F false cs = if fs.length % 4 = 1 then .error (dueMsg fs.length) else if fs.length % 4 ≠ 0 then .error padMsg else .ok ((octF fs).map fun x : Nat => (x : Int)) := by
  obtain ⟨s, o, e, h⟩ := a2run_figs false hf a2ok_start
  have h : A2Ok (figVal fs) fs.length s o := by rw [Nat.zero_add] at h; exact h
  unfold a2F
  rw [e]
  show a2end s = _
  unfold a2end
  rw [h.octF, ← h.out, h.quad, h.pads]
  by_cases h1 : fs.length % 4 = 1
  · rw [if_pos h1, if_pos h1, h.out, List.length_map, h.len]
    refine congrArg Except.error (congrArg dueMsg ?_)
    omega
  · rw [if_neg h1, if_neg h1]
    by_cases h2 : fs.length % 4 = 0
    · rw [if_neg (fun e => e.1 h2), if_neg (fun e => e h2)]
    · rw [if_pos ⟨h2, by omega⟩, if_pos h2]
theorem a2run_pads : ∀ (p : Nat) (s : A2), a2run false s (List.replicate p 61) = .go ⟨s.out, s.quad, s.left, s.pads + p, s.i + p⟩
  | 0, s => rfl
  | p + 1, s => by
    have e1 : a2run false s (List.replicate (p + 1) 61) = match a2step false s 61 with | .go s' => a2run false s' (List.replicate p 61) | e => e := rfl
    have e2 : a2step false s 61 = .go ⟨s.out, s.quad, s.left, s.pads + 1, s.i + 1⟩ := by
      unfold a2step
      rw [if_pos (by decide)]
      dsimp only
      split
      · rfl
      · rw [if_pos rfl]
    rw [e1, e2]
    show a2run false _ _ = _
    rw [a2run_pads p]
    simp only [A2R.go.injEq, A2.mk.injEq, true_and]
    omega
/-- with the right filling -/
theorem a2F_full {cs : List UInt8} {fs : List Nat} (hf : Figs cs fs) {p : Nat} (hp : p = (4 - fs.length % 4) % 4) : a2F false (cs ++ List.replicate p 61) = if fs.length % 4 = 1 then .error (dueMsg fs.length) else .ok ((octF fs).map fun x : Nat => (x : Int)) := by
  obtain ⟨s, o, e, h⟩ := a2run_figs false hf a2ok_start
  have h : A2Ok (figVal fs) fs.length s o := by rw [Nat.zero_add] at h; exact h
  unfold a2F
  rw [a2run_app, e]
  dsimp only
  rw [a2run_pads]
  show a2end _ = _
  unfold a2end
  dsimp only
  rw [h.octF, ← h.out, h.quad, h.pads]
  by_cases h1 : fs.length % 4 = 1
  · rw [if_pos h1, if_pos h1, h.out, List.length_map, h.len]
    refine congrArg Except.error (congrArg dueMsg ?_)
    omega
  · rw [if_neg h1, if_neg h1, if_neg (by omega)]
theorem rowVal_valB (row : List UInt8) : rowVal row = valB 256 (row.map (·.toNat)) := by
  unfold rowVal valB
  rw [List.foldl_map]
theorem valB_lt {B : Nat} (hB : 0 < B) : ∀ (n : Nat) (xs : List Nat), xs.length = n → (∀ x ∈ xs, x < B) → valB B xs < B ^ n
  | 0, xs, hl, _ => by
    cases xs with
    | nil => exact Nat.one_pos
    | cons _ _ => cases hl
  | n + 1, xs, hl, h => by
    have hne : xs ≠ [] := fun e => by rw [e] at hl; cases hl
    have hd := List.dropLast_concat_getLast hne
    have hn : xs.dropLast.length = n := by rw [List.length_dropLast, hl]; rfl
    have h1 := valB_lt hB n _ hn fun x hx => h x ((List.dropLast_sublist xs).subset hx)
    have h2 := h _ (List.getLast_mem hne)
    rw [← hd, valB_snoc, Nat.pow_succ]
    calc valB B xs.dropLast * B + xs.getLast hne < valB B xs.dropLast * B + B := by omega
      _ = (valB B xs.dropLast + 1) * B := by rw [Nat.succ_mul]
      _ ≤ B ^ n * B := Nat.mul_le_mul_right _ h1
/-- a number below B^n is the value of its n digits -/
theorem valB_digB {B : Nat} (hB : 0 < B) : ∀ (n V : Nat), V < B ^ n → valB B (digB B n V) = V
  | 0, V, h => by rw [Nat.pow_zero] at h; have : V = 0 := by omega
                  subst this; rfl
  | n + 1, V, h => by
    have e : V = V / B * B + V % B := by rw [Nat.mul_comm]; exact (Nat.div_add_mod V B).symm
    have h1 : V / B < B ^ n := by rw [Nat.div_lt_iff_lt_mul hB, ← Nat.pow_succ]; exact h
    have h2 := Nat.mod_lt V hB
    conv => lhs; rw [e]
    rw [digB_snoc hB h2, valB_snoc, valB_digB hB n _ h1]
    exact e.symm
theorem figF_length (row : List UInt8) : (figF row).length = figN row := by unfold figF; rw [List.length_map, List.length_range]
theorem figW_lt (row : List UInt8) : figW row < 64 ^ figN row := by
  have h1 : rowVal row < 256 ^ row.length := by
    rw [rowVal_valB]
    exact valB_lt (by decide) _ _ (List.length_map _) fun x hx => by
      obtain ⟨c, _, rfl⟩ := List.mem_map.mp hx
      exact c.toNat_lt
  have h2 : 8 * row.length ≤ 6 * figN row := by unfold figN; omega
  have e1 : 256 ^ row.length = 2 ^ (8 * row.length) := by rw [show (256 : Nat) = 2 ^ 8 from rfl, ← Nat.pow_mul]
  have e2 : 64 ^ figN row = 2 ^ (8 * row.length) * 2 ^ (6 * figN row - 8 * row.length) := by
    rw [show (64 : Nat) = 2 ^ 6 from rfl, ← Nat.pow_mul, ← Nat.pow_add]
    congr 1
    omega
  unfold figW
  rw [e2, ← e1]
  exact Nat.mul_lt_mul_of_pos_right h1 (Nat.pow_pos (by decide))
theorem octF_figF (row : List UInt8) : octF (figF row) = row.map (·.toNat) := by
  have hN : octN (figF row) = row.length := by unfold octN; rw [figF_length]; unfold figN; omega
  have hV : figVal (figF row) = figW row := by rw [figVal_valB, figF_dig, valB_digB (by decide) _ _ (figW_lt row)]
  have hW : octW (figF row) = rowVal row := by
    unfold octW
    rw [hV, hN, figF_length]
    unfold figW
    exact Nat.mul_div_cancel _ (Nat.pow_pos (by decide))
  rw [octF_dig, hN, hW, rowVal_valB]
  exact digB_valB (by decide) _ _ (List.length_map _) fun x hx => by
    obtain ⟨c, _, rfl⟩ := List.mem_map.mp hx
    exact c.toNat_lt
theorem figF_lt (row : List UInt8) : ∀ f ∈ figF row, f < 64 := by
  intro f hf
  obtain ⟨k, _, rfl⟩ := List.mem_map.mp hf
  exact Nat.mod_lt _ (by decide)
theorem a2run_padsS (strict : Bool) : ∀ (p : Nat) (s : A2), p = 0 ∨ 2 ≤ s.quad → s.quad + s.pads + p ≤ 4 → a2run strict s (List.replicate p 61) = .go ⟨s.out, s.quad, s.left, s.pads + p, s.i + p⟩
  | 0, s, _, _ => rfl
  | p + 1, s, hq, hp => by
    have hq : 2 ≤ s.quad := by omega
    have e1 : a2run strict s (List.replicate (p + 1) 61) = match a2step strict s 61 with | .go s' => a2run strict s' (List.replicate p 61) | e => e := rfl
    have e2 : a2step strict s 61 = .go ⟨s.out, s.quad, s.left, s.pads + 1, s.i + 1⟩ := by
      unfold a2step
      rw [if_pos (by decide)]
      dsimp only
      rw [if_pos ⟨hq, by omega⟩]
    rw [e1, e2]
    show a2run strict _ _ = _
    rw [a2run_padsS strict p ⟨s.out, s.quad, s.left, s.pads + 1, s.i + 1⟩ (.inr hq) (by dsimp only; omega)]
    simp only [A2R.go.injEq, A2.mk.injEq, true_and]
    omega
/-- strict, with the right filling -/
theorem a2F_strict {cs : List UInt8} {fs : List Nat} (hf : Figs cs fs) {p : Nat} (hp : p = (4 - fs.length % 4) % 4) (h1 : fs.length % 4 ≠ 1) : a2F true (cs ++ List.replicate p 61) = .ok ((octF fs).map fun x : Nat => (x : Int)) := by
  obtain ⟨s, o, e, h⟩ := a2run_figs true hf a2ok_start
  have h : A2Ok (figVal fs) fs.length s o := by rw [Nat.zero_add] at h; exact h
  unfold a2F
  rw [a2run_app, e]
  dsimp only
  rw [a2run_padsS true p s (by rw [h.quad]; omega) (by rw [h.quad, h.pads]; omega)]
  show a2end _ = _
  unfold a2end
  dsimp only
  rw [h.octF, ← h.out, h.quad, h.pads, if_neg h1, if_neg (by omega)]
/-- strict: a sign that is no figure and no filling is refused -/
theorem a2F_blank {cs : List UInt8} {fs : List Nat} (hf : Figs cs fs) (r : List UInt8) : ∃ m, a2F true (cs ++ 32 :: r) = .error m := by
  obtain ⟨s, o, e, h⟩ := a2run_figs true hf a2ok_start
  refine ⟨cpsOf (Str.ofString "Only base64 data is allowed"), ?_⟩
  unfold a2F
  rw [a2run_app, e]
  dsimp only
  have e1 : a2run true s (32 :: r) = match a2step true s 32 with | .go s' => a2run true s' r | e => e := rfl
  have e2 : a2step true s 32 = .bad (cpsOf (Str.ofString "Only base64 data is allowed")) := by
    unfold a2step
    rw [if_neg (by decide), if_pos (by decide), if_pos rfl]
  rw [e1, e2]
/-! the law's reader reads back the body of a translation -/
noncomputable def no93 (ps : List Part) : Prop := ∀ t, Part.txt t ∈ ps → 93 ∉ t
inductive PSrc : List Part → List Nat → Prop
  | nil : PSrc [] []
  | star {ps : List Part} {σ : List Nat} : PSrc ps σ → PSrc (.star :: ps) (42 :: σ)
  | dot {ps : List Part} {σ : List Nat} : PSrc ps σ → PSrc (.txt [46] :: ps) (63 :: σ)
  | plain {c : Nat} {ps : List Part} {σ : List Nat} : c ∉ specialL → PSrc ps σ → PSrc (.txt [c] :: ps) (c :: σ)
  | esc {c : Nat} {ps : List Part} {σ : List Nat} : c ∈ specialL → c ∉ [42, 63] → c ≠ 91 → PSrc ps σ → PSrc (.txt [92, c] :: ps) (c :: σ)
  | op {ps : List Part} {σ : List Nat} : (no93 ps ∨ ∃ r, ps = .txt [92, 93] :: r ∧ no93 r) → PSrc ps σ → PSrc (.txt [92, 91] :: ps) (91 :: σ)
  | set {stuff : List Nat} {ps : List Part} {σ : List Nat} : (∀ u, setRead ((setText stuff).drop 1 ++ u) = some (91 :: stuff ++ [93], (setText stuff).length - 1)) → PSrc ps σ → PSrc (.txt (setText stuff) :: ps) (91 :: stuff ++ 93 :: σ)
noncomputable def anyS (ps : List Part) : Bool := ps.any Part.isStar
noncomputable def bB : RSt → List Part → List Nat
  | st, .txt t :: r => t ++ bB st r
  | .group, .star :: r => 41 :: (if anyS r = true then [40, 63, 62, 46, 42, 63] ++ bB .group r else [46, 42] ++ bB .last r)
  | _, .star :: r => if anyS r = true then [40, 63, 62, 46, 42, 63] ++ bB .group r else [46, 42] ++ bB .last r
  | .group, [] => [41]
  | _, [] => []
theorem bB_txt (st : RSt) (t : List Nat) (r : List Part) : bB st (.txt t :: r) = t ++ bB st r := by cases st <;> rfl
theorem rsP_nil : ∀ (ps : List Part), rsP ps = [] ↔ anyS ps = false
  | [] => ⟨fun _ => rfl, fun _ => rfl⟩
  | .txt t :: r => (rsP_nil r).trans (by unfold anyS; simp [Part.isStar])
  | .star :: r => ⟨fun h => by simp [rsP] at h, fun h => by simp [anyS, Part.isStar] at h⟩
theorem bB_last : ∀ (ps : List Part), anyS ps = false → bB .last ps = tx ps
  | [], _ => rfl
  | .txt t :: r, h => by
    rw [bB_txt, bB_last r (by unfold anyS at h ⊢; simpa [Part.isStar] using h)]
    rfl
  | .star :: r, h => by simp [anyS, Part.isStar] at h
theorem bB_jt : ∀ (ps : List Part) (n : Nat), ps.length ≤ n → bB .front ps = tx ps ++ jt n (rsP ps) ∧ (anyS ps = true → bB .group ps = tx ps ++ [41] ++ jt n (rsP ps))
  | [], n, _ => ⟨by cases n <;> rfl, fun h => by simp [anyS] at h⟩
  | .txt t :: r, n, hn => by
    obtain ⟨h1, h2⟩ := bB_jt r n (by simp at hn; omega)
    refine ⟨?_, fun h => ?_⟩
    · rw [bB_txt, h1]
      show _ = (t ++ tx r) ++ jt n (rsP r)
      rw [List.append_assoc]
    · rw [bB_txt, h2 (by unfold anyS at h ⊢; simpa [Part.isStar] using h)]
      show _ = (t ++ tx r) ++ [41] ++ jt n (rsP r)
      simp
  | .star :: r, 0, hn => by simp at hn
  | .star :: r, n + 1, hn => by
    obtain ⟨h1, h2⟩ := bB_jt r n (by simp at hn; omega)
    have key : (if anyS r = true then [40, 63, 62, 46, 42, 63] ++ bB .group r else [46, 42] ++ bB .last r) = jt (n + 1) (.star :: r) := by
      show _ = (if r = [] then [46, 42] else if rsP r = [] then [46, 42] ++ tx r else [40, 63, 62, 46, 42, 63] ++ tx r ++ [41] ++ jt n (rsP r))
      cases hs : anyS r with
      | false =>
        rw [if_neg (by decide), bB_last r hs]
        by_cases hr : r = []
        · subst hr; rfl
        · rw [if_neg hr, if_pos ((rsP_nil r).mpr hs)]
      | true =>
        have hne : rsP r ≠ [] := fun e => by rw [(rsP_nil r).mp e] at hs; cases hs
        have hr : r ≠ [] := fun e => by subst e; exact hne rfl
        rw [if_pos rfl, if_neg hr, if_neg hne, h2 hs]
        simp
    refine ⟨?_, fun _ => ?_⟩
    · show (if anyS r = true then _ else _) = [] ++ jt (n + 1) (.star :: r)
      rw [key]; rfl
    · show 41 :: (if anyS r = true then _ else _) = [] ++ [41] ++ jt (n + 1) (.star :: r)
      rw [key]; rfl
theorem bodyOf_eq (ps : List Part) : bodyOf ps = bB .front ps := ((bB_jt ps ps.length (Nat.le_refl _)).1).symm
theorem rdRun_cons {t u τ : List Nat} {st st' : RSt} {fuel : Nat} (ht : t ≠ []) (hs : rdStep (t ++ u) st = some (τ, t.length, st')) (hf : (t ++ u).length ≤ fuel) : ∃ f', u.length ≤ f' ∧ rdRun fuel (t ++ u) st = (rdRun f' u st').map fun q => (τ ++ q.1, q.2) := by
  cases fuel with
  | zero =>
    exfalso
    have : (t ++ u).length = 0 := by omega
    rw [List.length_append] at this
    exact ht (List.length_eq_zero_iff.mp (by omega))
  | succ f =>
    have hl : 0 < t.length := List.length_pos_iff.mpr ht
    rw [List.length_append] at hf
    refine ⟨f, by omega, ?_⟩
    cases hx : t ++ u with
    | nil =>
      exfalso
      have := congrArg List.length hx
      simp at this
      exact ht this.1
    | cons c r =>
      rw [hx] at hs
      show (match rdStep (c :: r) st with | none => none | some (s, k, st') => (rdRun f ((c :: r).drop k) st').map (fun q : List Nat × RSt => (s ++ q.1, q.2))) = _
      rw [hs]
      dsimp only
      rw [← hx, List.drop_left]
theorem bB_head {ps : List Part} {σ : List Nat} (h : PSrc ps σ) (st : RSt) : (bB st ps).head? ≠ some 42 := by
  cases h with
  | nil => cases st <;> decide
  | @star ps σ hs =>
    have key : (if anyS ps = true then [40, 63, 62, 46, 42, 63] ++ bB .group ps else [46, 42] ++ bB .last ps).head? ≠ some 42 := by
      split
      · exact (by decide : some 40 ≠ some 42)
      · exact (by decide : some 46 ≠ some 42)
    cases st with
    | group => exact (by decide : some 41 ≠ some 42)
    | front => exact key
    | last => exact key
    | behind => exact key
  | dot => rw [bB_txt]; exact (by decide : some 46 ≠ some 42)
  | plain hc => rw [bB_txt]; exact fun e => hc (by have := Option.some.inj e; rw [this]; decide)
  | esc => rw [bB_txt]; exact (by decide : some 92 ≠ some 42)
  | op => rw [bB_txt]; exact (by decide : some 92 ≠ some 42)
  | set => rw [bB_txt]; exact (by decide : some 91 ≠ some 42)
theorem no93_cons {p : Part} {r : List Part} (h : no93 (p :: r)) : no93 r := fun t ht => h t (.tail _ ht)
theorem no93_B : ∀ (ps : List Part), no93 ps → ∀ st, 93 ∉ bB st ps
  | [], _, st => by cases st <;> decide
  | .txt t :: r, h, st => by
    rw [bB_txt, List.mem_append]
    exact fun e => e.elim (h t (.head _)) (no93_B r (no93_cons h) st)
  | .star :: r, h, st => by
    have h1 := no93_B r (no93_cons h) .group
    have h2 := no93_B r (no93_cons h) .last
    have key : 93 ∉ (if anyS r = true then [40, 63, 62, 46, 42, 63] ++ bB .group r else [46, 42] ++ bB .last r) := by
      split
      · simp [h1]
      · simp [h2]
    cases st with
    | group => exact fun e => (List.mem_cons.mp e).elim (fun q => by cases q) key
    | front => exact key
    | last => exact key
    | behind => exact key
theorem setText_head (stuff : List Nat) : ∃ r, setText stuff = 91 :: r := ⟨_, rfl⟩
theorem rd_one {st : RSt} (hb : st ≠ .behind) {c : Nat} {u : List Nat} (h1 : c ≠ 40) (h2 : c ≠ 46 ∨ u.head? ≠ some 42) (h3 : c ≠ 41) :
    rdStep (c :: u) st = if c = 92 then
      match (c :: u)[1]? with
      | none => none
      | some a => if a ∉ specialL ∨ a ∈ [42, 63] ∨ (a = 91 ∧ 93 ∈ (if ((c :: u).drop 2).take 2 = [92, 93] then ((c :: u).drop 2).drop 2 else (c :: u).drop 2)) then none else some ([a], 2, st)
    else if c = 91 then (setRead u).map fun p => (p.1, 1 + p.2, st)
    else if c = 46 then some ([63], 1, st)
    else if c ∈ specialL then none
    else some ([c], 1, st) := by
  have e1 : ¬ (st.free = true ∧ (c :: u).take 6 = [40, 63, 62, 46, 42, 63]) := fun e => h1 (by have := e.2; simp at this; exact this.1)
  have e2 : ¬ (st.free = true ∧ (c :: u).take 2 = [46, 42]) := fun e => by
    have := e.2
    cases u with
    | nil => simp at this
    | cons d r =>
      simp at this
      rcases h2 with h2 | h2
      · exact h2 this.1
      · exact h2 (by simp [this.2])
  have e3 : ¬ (st = .group ∧ (c :: u).getD 0 0 = 41) := fun e => h3 e.2
  unfold rdStep
  rw [if_neg e1, if_neg e2, if_neg e3, if_neg hb]
  rfl
theorem rd_B {ps : List Part} {σ : List Nat} (h : PSrc ps σ) : ∀ (st : RSt) (fuel : Nat), st ≠ .behind → (st = .group → anyS ps = true) → (st = .last → anyS ps = false) → (bB st ps).length ≤ fuel → ∃ st', (st' = .front ∨ st' = .last) ∧ rdRun fuel (bB st ps) st = some (σ, st') := by
  have hs1 : ∀ (t : List Nat) (r : List Part), anyS (.txt t :: r) = anyS r := fun t r => by unfold anyS; simp [Part.isStar]
  induction h with
  | nil =>
    intro st fuel hb hg hl hf
    cases st with
    | front => exact ⟨.front, .inl rfl, by cases fuel <;> rfl⟩
    | last => exact ⟨.last, .inr rfl, by cases fuel <;> rfl⟩
    | group => exact absurd (hg rfl) (by decide)
    | behind => exact absurd rfl hb
  | @star ps σ hs ih =>
    have key : ∀ (st : RSt) (fuel : Nat), st.free = true → (if anyS ps = true then [40, 63, 62, 46, 42, 63] ++ bB .group ps else [46, 42] ++ bB .last ps).length ≤ fuel →
        ∃ st', (st' = .front ∨ st' = .last) ∧ rdRun fuel (if anyS ps = true then [40, 63, 62, 46, 42, 63] ++ bB .group ps else [46, 42] ++ bB .last ps) st = some (42 :: σ, st') := by
      intro st fuel hfree hf
      cases ha : anyS ps with
      | true =>
        rw [ha, if_pos rfl] at hf
        rw [if_pos rfl]
        obtain ⟨f', hf', e⟩ := rdRun_cons (t := [40, 63, 62, 46, 42, 63]) (τ := [42]) (st' := .group) (st := st) (by simp) (by unfold rdStep; rw [if_pos ⟨hfree, rfl⟩]; rfl) hf
        obtain ⟨st', h1, h2⟩ := ih .group f' (by decide) (fun _ => ha) (fun e => by cases e) hf'
        exact ⟨st', h1, by rw [e, h2]; rfl⟩
      | false =>
        rw [ha, if_neg (by decide)] at hf
        rw [if_neg (by decide)]
        obtain ⟨f', hf', e⟩ := rdRun_cons (t := [46, 42]) (τ := [42]) (st' := .last) (st := st) (by simp) (by
          unfold rdStep
          rw [if_neg (fun e => by have := e.2; simp at this), if_pos ⟨hfree, by rfl⟩]; rfl) hf
        obtain ⟨st', h1, h2⟩ := ih .last f' (by decide) (fun e => by cases e) (fun _ => ha) hf'
        exact ⟨st', h1, by rw [e, h2]; rfl⟩
    intro st fuel hb hg hl hf
    cases st with
    | front => exact key .front fuel rfl hf
    | last => exact absurd (hl rfl) (by simp [anyS, Part.isStar])
    | behind => exact absurd rfl hb
    | group =>
      obtain ⟨f', hf', e⟩ := rdRun_cons (t := [41]) (τ := []) (st' := .behind) (st := .group) (u := (if anyS ps = true then [40, 63, 62, 46, 42, 63] ++ bB .group ps else [46, 42] ++ bB .last ps)) (fuel := fuel) (by simp) (by
        unfold rdStep
        rw [if_neg (fun e => by have := e.1; cases this), if_neg (fun e => by have := e.1; cases this), if_pos ⟨rfl, rfl⟩]; rfl) hf
      obtain ⟨st', h1, h2⟩ := key .behind f' rfl hf'
      refine ⟨st', h1, ?_⟩
      have e' : rdRun fuel (bB .group (.star :: ps)) .group = _ := e
      rw [e', h2]; rfl
  | @dot ps σ hs ih =>
    intro st fuel hb hg hl hf
    rw [bB_txt] at hf ⊢
    obtain ⟨f', hf', e⟩ := rdRun_cons (t := [46]) (τ := [63]) (st' := st) (by simp) (by show rdStep (46 :: bB st ps) st = _; rw [rd_one hb (by decide) (.inr (bB_head hs st)) (by decide)]; rfl) hf
    obtain ⟨st', h1, h2⟩ := ih st f' hb (fun e => by rw [← hs1]; exact hg e) (fun e => by rw [← hs1]; exact hl e) hf'
    exact ⟨st', h1, by rw [e, h2]; rfl⟩
  | @plain c ps σ hc hs ih =>
    intro st fuel hb hg hl hf
    rw [bB_txt] at hf ⊢
    obtain ⟨f', hf', e⟩ := rdRun_cons (t := [c]) (τ := [c]) (st' := st) (by simp) (by
      show rdStep (c :: bB st ps) st = _
      rw [rd_one hb (fun q => hc (by rw [q]; decide)) (.inl fun q => hc (by rw [q]; decide)) (fun q => hc (by rw [q]; decide)), if_neg (fun q => hc (by rw [q]; decide)), if_neg (fun q => hc (by rw [q]; decide)), if_neg (fun q => hc (by rw [q]; decide)), if_neg hc]; rfl) hf
    obtain ⟨st', h1, h2⟩ := ih st f' hb (fun e => by rw [← hs1]; exact hg e) (fun e => by rw [← hs1]; exact hl e) hf'
    exact ⟨st', h1, by rw [e, h2]; rfl⟩
  | @esc c ps σ hc1 hc2 hc3 hs ih =>
    intro st fuel hb hg hl hf
    rw [bB_txt] at hf ⊢
    obtain ⟨f', hf', e⟩ := rdRun_cons (t := [92, c]) (τ := [c]) (st' := st) (by simp) (by
      show rdStep (92 :: c :: bB st ps) st = _
      rw [rd_one hb (by decide) (.inl (by decide)) (by decide), if_pos rfl]
      show (if _ then none else some ([c], 2, st)) = _
      rw [if_neg (fun q => q.elim (fun q => q hc1) fun q => q.elim (fun q => hc2 q) fun q => hc3 q.1)]; rfl) hf
    obtain ⟨st', h1, h2⟩ := ih st f' hb (fun e => by rw [← hs1]; exact hg e) (fun e => by rw [← hs1]; exact hl e) hf'
    exact ⟨st', h1, by rw [e, h2]; rfl⟩
  | @op ps σ hn hs ih =>
    intro st fuel hb hg hl hf
    rw [bB_txt] at hf ⊢
    have hu : 93 ∉ (if (bB st ps).take 2 = [92, 93] then (bB st ps).drop 2 else bB st ps) := by
      rcases hn with hn | ⟨r, rfl, hn⟩
      · have := no93_B ps hn st
        split
        · exact fun e => this (List.mem_of_mem_drop e)
        · exact this
      · rw [bB_txt]
        rw [if_pos (show List.take 2 ([92, 93] ++ bB st r) = [92, 93] from rfl)]
        exact no93_B r hn st
    obtain ⟨f', hf', e⟩ := rdRun_cons (t := [92, 91]) (τ := [91]) (st' := st) (by simp) (by
      show rdStep (92 :: 91 :: bB st ps) st = _
      rw [rd_one hb (by decide) (.inl (by decide)) (by decide), if_pos rfl]
      show (if _ then none else some ([91], 2, st)) = _
      rw [if_neg (fun q => q.elim (fun q => q (by decide)) fun q => q.elim (fun q => absurd q (by decide)) fun q => hu q.2)]; rfl) hf
    obtain ⟨st', h1, h2⟩ := ih st f' hb (fun e => by rw [← hs1]; exact hg e) (fun e => by rw [← hs1]; exact hl e) hf'
    exact ⟨st', h1, by rw [e, h2]; rfl⟩
  | @set stuff ps σ hst hs ih =>
    intro st fuel hb hg hl hf
    rw [bB_txt] at hf ⊢
    obtain ⟨f', hf', e⟩ := rdRun_cons (t := setText stuff) (τ := 91 :: stuff ++ [93]) (st' := st) (by simp [setText]) (by
      obtain ⟨r, hr⟩ := setText_head stuff
      have h0 := hst (bB st ps)
      rw [hr] at h0 ⊢
      show rdStep (91 :: (r ++ bB st ps)) st = _
      rw [rd_one hb (by decide) (.inl (by decide)) (by decide), if_neg (by decide), if_pos rfl]
      have h1 : setRead (r ++ bB st ps) = some (91 :: stuff ++ [93], (91 :: r).length - 1) := h0
      rw [h1]
      simp; omega) hf
    obtain ⟨st', h1, h2⟩ := ih st f' hb (fun e => by rw [← hs1]; exact hg e) (fun e => by rw [← hs1]; exact hl e) hf'
    exact ⟨st', h1, by rw [e, h2]; simp⟩
theorem rd_body {ps : List Part} {σ : List Nat} (h : PSrc ps σ) : ∃ st', (st' = .front ∨ st' = .last) ∧ rdRun (bodyOf ps).length (bodyOf ps) .front = some (σ, st') := by
  rw [bodyOf_eq]
  exact rd_B h .front _ (by decide) (fun e => by cases e) (fun e => by cases e) (Nat.le_refl _)
/-! the parts of a writing, and what is read back: the writing with its runs of stars made one -/
noncomputable def sqB : Bool → List Nat → List Nat
  | _, [] => []
  | b, c :: r => if c = 42 then (if b = true then sqB true r else 42 :: sqB true r) else c :: sqB false r
noncomputable def trL : Nat → Bool → List Nat → List Part
  | 0, _, _ => []
  | _ + 1, _, [] => []
  | f + 1, b, c :: r => if c = 42 then (if b = true then trL f true r else .star :: trL f true r) else if c = 63 then .txt [46] :: trL f false r
    else if c = 91 then match bracket r with
      | none => .txt [92, 91] :: trL f false r
      | some L => .txt (setText (r.take L)) :: trL f false (r.drop (L + 1))
    else .txt (escOf c) :: trL f false r
theorem trL_cons (f : Nat) (b : Bool) (c : Nat) (r : List Nat) : trL (f + 1) b (c :: r) = if c = 42 then (if b = true then trL f true r else .star :: trL f true r) else if c = 63 then .txt [46] :: trL f false r
    else if c = 91 then match bracket r with
      | none => .txt [92, 91] :: trL f false r
      | some L => .txt (setText (r.take L)) :: trL f false (r.drop (L + 1))
    else .txt (escOf c) :: trL f false r := rfl
theorem sqB_cons (b : Bool) (c : Nat) (r : List Nat) : sqB b (c :: r) = if c = 42 then (if b = true then sqB true r else 42 :: sqB true r) else c :: sqB false r := rfl
noncomputable def lastStar (res : List Part) : Bool := decide (res.getLast?.map Part.isStar = some true)
theorem lastStar_snoc (res : List Part) (p : Part) : lastStar (res ++ [p]) = p.isStar := by
  unfold lastStar
  simp
theorem trRun_trL (pat : List Nat) : ∀ (f i : Nat) (res : List Part), trRun pat f i res = res ++ trL f (lastStar res) (pat.drop i)
  | 0, i, res => by simp [trRun, trL]
  | f + 1, i, res => by
    unfold trRun
    by_cases hi : i < pat.length
    · rw [if_pos hi]
      have hd : pat.drop i = pat[i] :: pat.drop (i + 1) := List.drop_eq_getElem_cons hi
      have hc : pat.getD i 0 = pat[i] := by simp [hi]
      rw [trRun_trL pat f]
      rw [hd]
      rw [trL_cons]
      unfold trStep
      rw [hc]
      dsimp only
      by_cases h42 : pat[i] = 42
      · rw [if_pos h42, if_pos h42]
        dsimp only
        by_cases hl : res.getLast?.map Part.isStar = some true
        · rw [if_pos hl, if_pos (by unfold lastStar; exact decide_eq_true hl)]
          have : lastStar res = true := decide_eq_true hl
          rw [this]
        · rw [if_neg hl, if_neg (by unfold lastStar; simpa using hl), lastStar_snoc]
          simp [Part.isStar]
      · rw [if_neg h42, if_neg h42]
        by_cases h63 : pat[i] = 63
        · rw [if_pos h63, if_pos h63]
          dsimp only
          rw [lastStar_snoc]
          simp [Part.isStar]
        · rw [if_neg h63, if_neg h63]
          by_cases h91 : pat[i] = 91
          · rw [if_pos h91, if_pos h91]
            cases hb : bracket (pat.drop (i + 1)) with
            | none =>
              dsimp only
              rw [lastStar_snoc]
              simp [Part.isStar]
            | some L =>
              dsimp only
              rw [lastStar_snoc, List.drop_drop]
              simp [Part.isStar, Nat.add_assoc]
          · rw [if_neg h91, if_neg h91]
            dsimp only
            rw [lastStar_snoc]
            simp [Part.isStar]
    · rw [if_neg hi, List.drop_of_length_le (by omega)]
      simp [trL]
theorem trAll_eq (pat : List Nat) : trAll pat = trL pat.length false pat := by
  unfold trAll
  rw [trRun_trL]
  simp [lastStar]
noncomputable abbrev BaseC (c : Nat) : Prop := c = 61 ∨ (48 ≤ c ∧ c ≤ 57) ∨ (65 ≤ c ∧ c ≤ 90) ∨ (97 ≤ c ∧ c ≤ 122)
noncomputable def Alph (m1 m2 : Nat) (r : List Nat) : Prop := ∀ c ∈ r, BaseC c ∨ c = m1 ∨ c = m2
theorem base_ne {c k : Nat} (h : BaseC c) (hk : ¬ BaseC k) : c ≠ k := fun e => hk (e ▸ h)
theorem base_spec {c : Nat} (h : BaseC c) : c ∉ specialL := by
  intro hm
  have : ∀ x ∈ specialL, ¬ BaseC x := by decide
  exact this c hm h
theorem alph_both {m1 m2 : Nat} {r : List Nat} (hA : Alph m1 m2 r) (h1 : 91 ∈ r) (h2 : 93 ∈ r) : ∀ c ∈ r, BaseC c ∨ c = 91 ∨ c = 93 := by
  have e1 := hA 91 h1
  have e2 := hA 93 h2
  have n1 : ¬ BaseC 91 := by decide
  have n2 : ¬ BaseC 93 := by decide
  intro c hc
  rcases hA c hc with h | h | h
  · exact .inl h
  · rcases e1 with e | e | e
    · exact absurd e n1
    · exact .inr (.inl (h.trans e.symm))
    · rcases e2 with e' | e' | e'
      · exact absurd e' n2
      · exact .inr (.inr (h.trans e'.symm))
      · exact absurd (e.trans e'.symm) (by decide)
  · rcases e1 with e | e | e
    · exact absurd e n1
    · rcases e2 with e' | e' | e'
      · exact absurd e' n2
      · exact absurd (e.trans e'.symm) (by decide)
      · exact .inr (.inr (h.trans e'.symm))
    · exact .inr (.inl (h.trans e.symm))
/-- one set of a writing -/
structure SetOk (stuff : List Nat) : Prop where
  tail : ∃ c s, stuff = c :: s ∧ ∀ x ∈ s, BaseC x ∨ x = 91
  all : ∀ x ∈ stuff, BaseC x ∨ x = 91 ∨ x = 93
theorem set_ok {m1 m2 : Nat} {r : List Nat} {L : Nat} (hA : Alph m1 m2 (91 :: r)) (h : bracket r = some L) : SetOk (r.take L) ∧ r = r.take L ++ 93 :: r.drop (L + 1) := by
  obtain ⟨hl, h93, hs, hno⟩ := bracket_lt h
  have hall := alph_both hA (.head _) (.tail _ (List.mem_of_getElem? h93))
  have hsplit : r = r.take L ++ 93 :: r.drop (L + 1) := by
    have e : r.drop L = 93 :: r.drop (L + 1) := by
      obtain ⟨hk, e⟩ := List.getElem?_eq_some_iff.mp h93
      rw [← e]
      exact List.drop_eq_getElem_cons hk
    rw [← e, List.take_append_drop]
  refine ⟨⟨?_, fun x hx => hall x (.tail _ (List.mem_of_mem_take hx))⟩, hsplit⟩
  cases r with
  | nil => simp at hl
  | cons a r' =>
    have ha : a ≠ 33 := fun e => by
      rcases hall a (.tail _ (.head _)) with q | q | q
      · exact base_ne q (by decide) e
      · rw [e] at q; cases q
      · rw [e] at q; cases q
    have hsf : setFrom (a :: r') = if a = 93 then 1 else 0 := by
      unfold setFrom
      simp [ha]
    cases L with
    | zero =>
      exfalso
      have e : a = 93 := by simpa using h93
      rw [hsf, if_pos e] at hs
      omega
    | succ L =>
      refine ⟨a, r'.take L, rfl, fun x hx => ?_⟩
      obtain ⟨t, ht, e⟩ := List.mem_iff_getElem.mp hx
      rw [List.length_take] at ht
      have hx' : (a :: r')[t + 1]? = some x := by
        rw [List.getElem?_cons_succ, List.getElem?_eq_getElem (by omega), ← e]
        simp
      have hx93 : x ≠ 93 := fun q => hno (t + 1) (by rw [hsf]; split <;> omega) (by omega) (q ▸ hx')
      rcases hall x (.tail _ (List.mem_of_getElem? hx')) with q | q | q
      · exact .inl q
      · exact .inr q
      · exact absurd q hx93
theorem run_of {s u : List Nat} (h : ∀ x ∈ s, BaseC x ∨ x = 91) : (s ++ 93 :: u).takeWhile (fun c => !([93, 92].contains c)) = s := by
  induction s with
  | nil => rfl
  | cons c s ih =>
    have hc : c ≠ 93 ∧ c ≠ 92 := by
      rcases h c (.head _) with q | q
      · exact ⟨base_ne q (by decide), base_ne q (by decide)⟩
      · subst q; decide
    rw [List.cons_append, List.takeWhile_cons, if_pos (by simp [hc.1, hc.2]), ih fun x hx => h x (.tail _ hx)]
theorem set_read {stuff : List Nat} (h : SetOk stuff) (u : List Nat) : setRead ((setText stuff).drop 1 ++ u) = some (91 :: stuff ++ [93], (setText stuff).length - 1) := by
  obtain ⟨⟨c, s, rfl, hs⟩, hall⟩ := h
  have hc := hall c (.head _)
  unfold setText
  by_cases h91 : c = 91
  · subst h91
    have e : (91 :: (if (91 :: s)[0]? = some 91 then 92 :: 91 :: s else 91 :: s) ++ [93]).drop 1 ++ u = 92 :: 91 :: (s ++ 93 :: u) := by simp
    rw [e]
    have hh : setHead (92 :: 91 :: (s ++ 93 :: u)) = ([91], 2) := rfl
    have hr : setRun (92 :: 91 :: (s ++ 93 :: u)) = s := by
      unfold setRun
      rw [hh]
      exact run_of hs
    unfold setRead
    rw [hh, hr, if_neg (fun q => q.1 rfl), if_neg (fun q => by
      rcases q with q | q
      · apply q
        have : (92 :: 91 :: (s ++ 93 :: u)).drop (2 + s.length) = 93 :: u := by
          rw [Nat.add_comm]; simp
        show ((92 :: 91 :: (s ++ 93 :: u)).drop (2 + s.length)).take 1 = [93]
        rw [this]; rfl
      · simp at q)]
    simp
    omega
  · have e : (91 :: (if (c :: s)[0]? = some 91 then 92 :: c :: s else c :: s) ++ [93]).drop 1 ++ u = c :: (s ++ 93 :: u) := by simp [h91]
    rw [e]
    have hlen : (91 :: (if (c :: s)[0]? = some 91 then 92 :: c :: s else c :: s) ++ [93]).length - 1 = s.length + 2 := by simp [h91]
    rw [hlen]
    by_cases h93 : c = 93
    · subst h93
      have hh : setHead (93 :: (s ++ 93 :: u)) = ([93], 1) := by unfold setHead; simp
      have hr : setRun (93 :: (s ++ 93 :: u)) = s := by
        unfold setRun
        rw [hh]
        exact run_of hs
      unfold setRead
      rw [hh, hr, if_neg (fun q => q.2.1 rfl), if_neg (fun q => by
        rcases q with q | q
        · apply q
          show ((93 :: (s ++ 93 :: u)).drop (1 + s.length)).take 1 = [93]
          have : (93 :: (s ++ 93 :: u)).drop (1 + s.length) = 93 :: u := by rw [Nat.add_comm]; simp
          rw [this]; rfl
        · simp at q)]
      simp
      omega
    · have hb : BaseC c := by
        rcases hc with q | q | q
        · exact q
        · exact absurd q h91
        · exact absurd q h93
      have hh : setHead (c :: (s ++ 93 :: u)) = ([], 0) := by
        unfold setHead
        have : c ≠ 92 := base_ne hb (by decide)
        simp [this, h93]
      have hr : setRun (c :: (s ++ 93 :: u)) = c :: s := by
        unfold setRun
        rw [hh]
        exact run_of (s := c :: s) (fun x hx => by
          rcases List.mem_cons.mp hx with rfl | hx
          · exact .inl hb
          · exact hs x hx)
      unfold setRead
      rw [hh, hr, if_neg (fun q => by have := q.2.2; simp at this; exact h91 this), if_neg (fun q => by
        rcases q with q | q
        · apply q
          show ((c :: (s ++ 93 :: u)).drop (0 + (c :: s).length)).take 1 = [93]
          have : (c :: (s ++ 93 :: u)).drop (0 + (c :: s).length) = 93 :: u := by simp
          rw [this]; rfl
        · simp at q)]
      simp
theorem no93_trL : ∀ (f : Nat) (b : Bool) (r : List Nat), 93 ∉ r → no93 (trL f b r)
  | 0, _, _, _ => fun t h => nomatch h
  | f + 1, _, [], _ => fun t h => nomatch h
  | f + 1, b, c :: r, h => by
    have hr : 93 ∉ r := fun e => h (.tail _ e)
    have hc : c ≠ 93 := fun e => h (e ▸ .head _)
    have cons : ∀ (t : List Nat) (b : Bool) (r' : List Nat), 93 ∉ t → 93 ∉ r' → no93 (.txt t :: trL f b r') := fun t b r' h1 h2 x hx => by
      rcases List.mem_cons.mp hx with e | e
      · cases e; exact h1
      · exact no93_trL f b r' h2 x e
    rw [trL_cons]
    split
    · split
      · exact no93_trL f true r hr
      · intro t ht
        rcases List.mem_cons.mp ht with e | e
        · cases e
        · exact no93_trL f true r hr t e
    · split
      · exact cons _ _ _ (by decide) hr
      · split
        · split
          · exact cons _ _ _ (by decide) hr
          · rename_i L hb
            exact absurd (List.mem_of_getElem? (bracket_lt hb).2.1) hr
        · refine cons _ _ _ ?_ hr
          unfold escOf
          split
          · simp; exact Ne.symm hc
          · simp; exact Ne.symm hc
theorem alph_tail {m1 m2 c : Nat} {r : List Nat} (h : Alph m1 m2 (c :: r)) : Alph m1 m2 r := fun x hx => h x (.tail _ hx)
theorem alph_drop {m1 m2 : Nat} {r : List Nat} (h : Alph m1 m2 r) (k : Nat) : Alph m1 m2 (r.drop k) := fun x hx => h x (List.mem_of_mem_drop hx)
theorem sqB_free {b : Bool} : ∀ {s : List Nat} (r : List Nat), 42 ∉ s → s ≠ [] → sqB b (s ++ r) = s ++ sqB false r
  | [], _, _, h => absurd rfl h
  | c :: s, r, h, _ => by
    have hc : c ≠ 42 := fun e => h (e ▸ .head _)
    rw [List.cons_append]
    rw [sqB_cons, if_neg hc]
    by_cases hs : s = []
    · subst hs; rfl
    · rw [sqB_free r (fun e => h (.tail _ e)) hs]
      rfl
theorem src_trL {m1 m2 : Nat} : ∀ (f : Nat) (b : Bool) (r : List Nat), r.length ≤ f → Alph m1 m2 r → PSrc (trL f b r) (sqB b r)
  | 0, b, r, hf, _ => by
    have : r = [] := List.length_eq_zero_iff.mp (by omega)
    subst this
    exact .nil
  | f + 1, b, [], _, _ => .nil
  | f + 1, b, c :: r, hf, hA => by
    have hf' : r.length ≤ f := by simp at hf; omega
    have hA' := alph_tail hA
    rw [trL_cons, sqB_cons]
    by_cases h42 : c = 42
    · rw [if_pos h42, if_pos h42]
      cases b with
      | true => exact src_trL f true r hf' hA'
      | false => exact .star (src_trL f true r hf' hA')
    · rw [if_neg h42, if_neg h42]
      by_cases h63 : c = 63
      · subst h63
        exact .dot (src_trL f false r hf' hA')
      · rw [if_neg h63]
        by_cases h91 : c = 91
        · subst h91
          rw [if_pos rfl]
          cases hb : bracket r with
          | none =>
            refine .op ?_ (src_trL f false r hf' hA')
            by_cases h93 : 93 ∈ r
            · have hall := alph_both hA (.head _) (.tail _ h93)
              cases r with
              | nil => cases h93
              | cons a r' =>
                have ha : a ≠ 33 := fun e => by
                  rcases hall a (.tail _ (.head _)) with q | q | q
                  · exact base_ne q (by decide) e
                  · rw [e] at q; cases q
                  · rw [e] at q; cases q
                have hsf : setFrom (a :: r') = if a = 93 then 1 else 0 := by
                  unfold setFrom
                  simp [ha]
                have hno := bracket_none hb
                have ha93 : a = 93 := Decidable.byContradiction fun q => by
                  obtain ⟨t, ht, e⟩ := List.mem_iff_getElem.mp h93
                  exact hno t (by rw [hsf, if_neg q]; omega) (by rw [List.getElem?_eq_getElem ht, e])
                subst ha93
                have hr' : 93 ∉ r' := fun q => by
                  obtain ⟨t, ht, e⟩ := List.mem_iff_getElem.mp q
                  exact hno (t + 1) (by rw [hsf, if_pos rfl]; omega) (by rw [List.getElem?_cons_succ, List.getElem?_eq_getElem ht, e])
                cases f with
                | zero => simp at hf'
                | succ f =>
                  refine .inr ⟨trL f false r', ?_, no93_trL f false r' hr'⟩
                  rw [trL_cons, if_neg (by decide), if_neg (by decide), if_neg (by decide)]
                  rfl
            · exact .inl (no93_trL f false r h93)
          | some L =>
            obtain ⟨hok, hsplit⟩ := set_ok hA hb
            have hl := (bracket_lt hb).1
            dsimp only
            have h42 : 42 ∉ r.take L ++ [93] := fun q => by
              rcases List.mem_append.mp q with q | q
              · rcases hok.all 42 q with e | e | e
                · exact absurd e (by decide)
                · cases e
                · cases e
              · simp at q
            have hsq : sqB false r = r.take L ++ 93 :: sqB false (r.drop (L + 1)) := by
              conv => lhs; rw [hsplit]
              have := sqB_free (b := false) (r.drop (L + 1)) h42 (by simp)
              rw [List.append_assoc, List.append_assoc] at this
              exact this
            rw [hsq]
            refine .set (set_read hok) (src_trL f false (r.drop (L + 1)) ?_ (alph_drop hA' _))
            rw [List.length_drop]
            omega
        · rw [if_neg h91]
          unfold escOf
          have hspec : specials = specialL := rfl
          rw [hspec]
          split
          · rename_i hsp
            exact .esc hsp (by simp [h42, h63]) h91 (src_trL f false r hf' hA')
          · rename_i hsp
            exact .plain hsp (src_trL f false r hf' hA')
/-- the law's reader reads the translation of a writing back -/
theorem read_back {m1 m2 : Nat} {pat : List Nat} (hA : Alph m1 m2 pat) : ∃ st', (st' = .front ∨ st' = .last) ∧ rdRun (bodyOf (trAll pat)).length (bodyOf (trAll pat)) .front = some (sqB false pat, st') := by
  refine rd_body ?_
  rw [trAll_eq]
  exact src_trL _ _ _ (Nat.le_refl _) hA
theorem goodPat {m1 m2 : Nat} {pat : List Nat} (hA : Alph m1 m2 pat) (h1 : m1 < 128) (h2 : m2 < 128) : GoodPat pat := by
  refine ⟨fun c hc => ?_, fun i L hi hb => ?_⟩
  · rcases hA c hc with h | h | h
    · unfold BaseC at h; omega
    · omega
    · omega
  · have hd : pat.drop i = 91 :: pat.drop (i + 1) := by
      obtain ⟨hk, e⟩ := List.getElem?_eq_some_iff.mp hi
      rw [← e]
      exact List.drop_eq_getElem_cons hk
    have hA' : Alph m1 m2 (91 :: pat.drop (i + 1)) := hd ▸ alph_drop hA i
    obtain ⟨⟨⟨c, s, e, hs⟩, hall⟩, _⟩ := set_ok hA' hb
    have out : ∀ k, ¬ BaseC k → k ≠ 91 → k ≠ 93 → k ∉ (pat.drop (i + 1)).take L := fun k hk h91 h93 hm => by
      rcases hall k hm with q | q | q
      · exact hk q
      · exact h91 q
      · exact h93 q
    refine ⟨fun x hx => ?_, out 45 (by decide) (by decide) (by decide), out 92 (by decide) (by decide) (by decide), by rw [e]; simp, fun q => ?_, fun q => ?_⟩
    · rcases hall x hx with q | q | q
      · unfold BaseC at q
        unfold plainC
        omega
      · subst q; exact ⟨by decide, by decide, by decide, by decide⟩
      · subst q; exact ⟨by decide, by decide, by decide, by decide⟩
    · exact out 33 (by decide) (by decide) (by decide) (List.mem_of_getElem? q)
    · exact out 94 (by decide) (by decide) (by decide) (List.mem_of_getElem? q)
/-! what b2a_base64 writes: the figures of the row, and the filling -/
noncomputable def b64s (l : List Nat) : List Int := l.map b64ch
theorem em_dig (V : Nat) : ∀ (fuel bits N : Nat), bits ≤ 16 → bits < 6 * fuel + 6 → b64s (digB 64 N (V / 2 ^ bits)) ++ em (V % 65536) fuel bits = b64s (digB 64 (N + bits / 6) (V / 2 ^ (bits % 6)))
  | 0, bits, N, h16, hf => by
    have hb6 : bits < 6 := by simpa using hf
    rw [Nat.div_eq_of_lt hb6, Nat.mod_eq_of_lt hb6]
    show _ ++ [] = _
    rw [List.append_nil, Nat.add_zero]
  | fuel + 1, bits, N, h16, hf => by
    have e0 : em (V % 65536) (fuel + 1) bits = if 6 ≤ bits then b64ch (V % 65536 / 2 ^ (bits - 6) % 64) :: em (V % 65536) fuel (bits - 6) else [] := rfl
    rw [e0]
    by_cases h6 : 6 ≤ bits
    · rw [if_pos h6]
      have hb : bits = (bits - 6) + 6 := (Nat.sub_add_cancel h6).symm
      generalize bits - 6 = k at hb ⊢
      subst hb
      have hk : k ≤ 10 := Nat.le_of_add_le_add_right h16
      have e1 : V % 65536 / 2 ^ k % 64 = V / 2 ^ k % 64 := by
        have : (65536 : Nat) = 2 ^ k * 2 ^ (16 - k) := by rw [← Nat.pow_add, Nat.add_sub_cancel' (Nat.le_trans hk (by decide))]
        rw [this, Nat.mod_mul_right_div_self]
        have h64 : (64 : Nat) ∣ 2 ^ (16 - k) := ⟨2 ^ (10 - k), by rw [show (64 : Nat) = 2 ^ 6 from rfl, ← Nat.pow_add, ← Nat.add_sub_assoc hk]⟩
        exact Nat.mod_mod_of_dvd _ h64
      have e2 : V / 2 ^ k = V / 2 ^ (k + 6) * 64 + V / 2 ^ k % 64 := by
        rw [Nat.pow_add, ← Nat.div_div_eq_div_mul]
        have := Nat.div_add_mod (V / 2 ^ k) 64
        show V / 2 ^ k = V / 2 ^ k / 64 * 64 + V / 2 ^ k % 64
        rw [Nat.mul_comm]
        exact this.symm
      have e3 : digB 64 (N + 1) (V / 2 ^ k) = digB 64 N (V / 2 ^ (k + 6)) ++ [V / 2 ^ k % 64] := by
        conv => lhs; rw [e2]
        exact digB_snoc (by decide) (Nat.mod_lt _ (by decide))
      have ih := em_dig V fuel k (N + 1) (Nat.le_trans hk (by decide)) (Nat.lt_of_add_lt_add_right hf)
      rw [e3] at ih
      have e4 : (k + 6) / 6 = k / 6 + 1 := Nat.add_div_right k (by decide)
      have e5 : (k + 6) % 6 = k % 6 := Nat.add_mod_right k 6
      rw [e4, e5, e1]
      have e6 : N + (k / 6 + 1) = N + 1 + k / 6 := by rw [Nat.add_comm (k / 6), Nat.add_assoc]
      rw [e6, ← ih]
      unfold b64s
      rw [List.map_append]
      simp
    · rw [if_neg h6]
      rw [Nat.div_eq_of_lt (Nat.lt_of_not_le h6), Nat.mod_eq_of_lt (Nat.lt_of_not_le h6), List.append_nil, Nat.add_zero]
theorem b2run_snoc (row : List UInt8) (b : UInt8) : b2run (row ++ [b]) = b2step (b2run row) b := by unfold b2run; rw [List.foldl_append]; rfl
theorem rowVal_snoc (row : List UInt8) (b : UInt8) : rowVal (row ++ [b]) = rowVal row * 256 + b.toNat := by unfold rowVal; rw [List.foldl_append]; rfl
theorem b2run_dig : ∀ (n : Nat) (row : List UInt8), row.length = n → (b2run row).lc = rowVal row % 65536 ∧ (b2run row).bits = 8 * n % 6 ∧ (b2run row).out = b64s (digB 64 (8 * n / 6) (rowVal row / 2 ^ (8 * n % 6)))
  | 0, row, h => by
    have : row = [] := List.length_eq_zero_iff.mp h
    subst this
    exact ⟨rfl, rfl, rfl⟩
  | n + 1, row, h => by
    have hne : row ≠ [] := fun e => by rw [e] at h; cases h
    have hd := List.dropLast_concat_getLast hne
    have hl : row.dropLast.length = n := by rw [List.length_dropLast, h]; rfl
    obtain ⟨h1, h2, h3⟩ := b2run_dig n row.dropLast hl
    rw [← hd, b2run_snoc, rowVal_snoc]
    generalize row.getLast hne = b at *
    generalize row.dropLast = r at *
    have hb := b.toNat_lt
    have hlc : ((b2run r).lc * 256 + b.toNat) % 65536 = (rowVal r * 256 + b.toNat) % 65536 := by rw [h1, Nat.add_mod, Nat.mul_mod, Nat.mod_mod, ← Nat.mul_mod, ← Nat.add_mod]
    refine ⟨hlc, ?_, ?_⟩
    · show ((b2run r).bits + 8) % 6 = _
      rw [h2, Nat.mul_succ, Nat.mod_add_mod]
    · show (b2run r).out ++ em (((b2run r).lc * 256 + b.toNat) % 65536) 3 ((b2run r).bits + 8) = _
      rw [hlc, h2, h3]
      have e1 : rowVal r / 2 ^ (8 * n % 6) = (rowVal r * 256 + b.toNat) / 2 ^ (8 * n % 6 + 8) := by
        rw [Nat.add_comm (8 * n % 6), Nat.pow_add, ← Nat.div_div_eq_div_mul]
        congr 1
        show rowVal r = (rowVal r * 256 + b.toNat) / 256
        rw [Nat.mul_comm, Nat.mul_add_div (by decide), Nat.div_eq_of_lt hb, Nat.add_zero]
      rw [e1, em_dig _ 3 (8 * n % 6 + 8) (8 * n / 6) (by omega) (by omega)]
      have e2 : 8 * n / 6 + (8 * n % 6 + 8) / 6 = 8 * (n + 1) / 6 := by
        rw [Nat.mul_succ]
        conv => rhs; rw [← Nat.div_add_mod (8 * n) 6, Nat.add_assoc, Nat.mul_add_div (by decide)]
      have e3 : (8 * n % 6 + 8) % 6 = 8 * (n + 1) % 6 := by rw [Nat.mul_succ, Nat.mod_add_mod]
      rw [e2, e3]
/-- the filling -/
noncomputable def padN (fs : List Nat) : Nat := (4 - fs.length % 4) % 4
theorem figF_len (row : List UInt8) : (figF row).length = (4 * row.length + 2) / 3 := figF_length row
theorem fig_r (q r : Nat) : (4 * (3 * q + r) + 2) / 3 = 4 * q + (4 * r + 2) / 3 := by
  rw [Nat.mul_add, Nat.mul_left_comm, Nat.add_assoc, Nat.mul_add_div (by decide)]
theorem bit_r (q r : Nat) : 8 * (3 * q + r) = 6 * (4 * q) + 8 * r := by
  rw [Nat.mul_add, ← Nat.mul_assoc 8 3 q, ← Nat.mul_assoc 6 4 q]
theorem bit_div (q r : Nat) : 8 * (3 * q + r) / 6 = 4 * q + 8 * r / 6 := by rw [bit_r, Nat.mul_add_div (by decide)]
theorem bit_mod (q r : Nat) : 8 * (3 * q + r) % 6 = 8 * r % 6 := by rw [bit_r, Nat.mul_add_mod]
theorem bit_sub (q r : Nat) : 6 * (4 * q + (4 * r + 2) / 3) - 8 * (3 * q + r) = 6 * ((4 * r + 2) / 3) - 8 * r := by rw [bit_r, Nat.mul_add, Nat.add_sub_add_left]
theorem pad_r (q k : Nat) : (4 - (4 * q + k) % 4) % 4 = (4 - k % 4) % 4 := by rw [Nat.mul_add_mod]
theorem b2fin_fig (row : List UInt8) : b2fin (b2run row) = b64s (figF row) ++ List.replicate (padN (figF row)) 61 := by
  obtain ⟨h1, h2, h3⟩ := b2run_dig row.length row rfl
  have hlen := figF_len row
  unfold b2fin padN
  rw [h1, h2, h3, hlen, figF_dig]
  have hN : figN row = (4 * row.length + 2) / 3 := rfl
  have hW : figW row = rowVal row * 2 ^ (6 * figN row - 8 * row.length) := rfl
  rw [hW, hN]
  clear hW hN h1 h2 h3 hlen
  generalize rowVal row = V
  generalize row.length = n
  obtain ⟨q, r, hn, hr⟩ : ∃ q r, n = 3 * q + r ∧ r < 3 := ⟨n / 3, n % 3, (Nat.div_add_mod n 3).symm, Nat.mod_lt _ (by decide)⟩
  subst hn
  rw [fig_r, bit_div, bit_mod, bit_sub, pad_r]
  match r, hr with
  | 0, _ =>
    rw [if_neg (by decide), if_neg (by decide)]
    show b64s (digB 64 (4 * q) (V / 1)) = b64s (digB 64 (4 * q) (V * 1)) ++ []
    rw [Nat.div_one, Nat.mul_one, List.append_nil]
  | 1, _ =>
    rw [if_pos (by decide)]
    have e5 : V * 2 ^ 4 = V / 2 ^ 2 * 64 + V % 4 * 16 := by omega
    show b64s (digB 64 (4 * q + 1) (V / 2 ^ 2)) ++ [b64ch (V % 65536 % 4 * 16), 61, 61] = b64s (digB 64 (4 * q + 1 + 1) (V * 2 ^ 4)) ++ [61, 61]
    rw [e5, digB_snoc (by decide) (Nat.mul_lt_mul_of_pos_right (Nat.mod_lt V (by decide : 0 < 4)) (by decide : 0 < 16)), Nat.mod_mod_of_dvd V (by decide)]
    unfold b64s
    rw [List.map_append, List.append_assoc]
    rfl
  | 2, _ =>
    rw [if_neg (by decide), if_pos (by decide)]
    have e5 : V * 2 ^ 2 = V / 2 ^ 4 * 64 + V % 16 * 4 := by omega
    show b64s (digB 64 (4 * q + 2) (V / 2 ^ 4)) ++ [b64ch (V % 65536 % 16 * 4), 61] = b64s (digB 64 (4 * q + 2 + 1) (V * 2 ^ 2)) ++ [61]
    rw [e5, digB_snoc (by decide) (Nat.mul_lt_mul_of_pos_right (Nat.mod_lt V (by decide : 0 < 16)) (by decide : 0 < 4)), Nat.mod_mod_of_dvd V (by decide)]
    unfold b64s
    rw [List.map_append, List.append_assoc]
    rfl
/-- a table of two signs -/
theorem mkTable2 (x y a b c : UInt8) : (mkTable [x, y] [a, b]).getD c.toNat c = if c = y then b else if c = x then a else c := by
  have hx := x.toNat_lt
  have hy := y.toNat_lt
  have hc := c.toNat_lt
  unfold mkTable
  simp only [List.zip_cons_cons, List.zip_nil_right, List.foldl_cons, List.foldl_nil]
  rw [List.getD_eq_getElem?_getD, Array.getElem?_toList]
  rw [Array.getElem?_setIfInBounds, Array.getElem?_setIfInBounds]
  simp only [Array.size_setIfInBounds, Array.size_map, Array.size_range]
  by_cases h1 : c = y
  · subst h1
    rw [if_pos rfl, if_pos (by omega), if_pos rfl]
    rfl
  · have h1' : ¬ y.toNat = c.toNat := fun e => h1 (UInt8.toNat_inj.mp e).symm
    rw [if_neg h1', if_neg h1]
    by_cases h2 : c = x
    · subst h2
      rw [if_pos rfl, if_pos (by omega), if_pos rfl]
      rfl
    · have h2' : ¬ x.toNat = c.toNat := fun e => h2 (UInt8.toNat_inj.mp e).symm
      rw [if_neg h2', if_neg h2]
      have : ((Array.range 256).map (·.toUInt8))[c.toNat]? = some c := by
        rw [Array.getElem?_map, Array.getElem?_range, if_pos (by omega)]
        simp
      rw [this]
      rfl
/-! a writing in two marks: encoded, decoded -/
theorem pairF_spec (n : Int) : ∃ m1 m2, pairF n = [m1, m2] ∧ m1 ∈ marksL ∧ m2 ∈ marksL ∧ m1 ≠ m2 := by
  unfold pairF
  have h8 : 0 ≤ n.fmod 8 ∧ n.fmod 8 < 8 := by
    rw [Int.fmod_eq_emod_of_nonneg _ (by decide)]
    omega
  split
  · rename_i h
    have : (n.fmod 8).toNat < 4 := by omega
    generalize (n.fmod 8).toNat = k at this
    match k, this with
    | 0, _ => exact ⟨42, 63, rfl, by decide, by decide, by decide⟩
    | 1, _ => exact ⟨91, 93, rfl, by decide, by decide, by decide⟩
    | 2, _ => exact ⟨93, 91, rfl, by decide, by decide, by decide⟩
    | 3, _ => exact ⟨63, 42, rfl, by decide, by decide, by decide⟩
  · have h1 : 0 ≤ firstF n ∧ firstF n < 16 := by
      unfold firstF
      rw [Int.fmod_eq_emod_of_nonneg _ (by decide)]
      omega
    have h2 : 0 ≤ secondF n ∧ secondF n < 16 ∧ secondF n ≠ firstF n := by
      unfold secondF
      rw [Int.fmod_eq_emod_of_nonneg _ (by decide), Int.fmod_eq_emod_of_nonneg (n.fdiv 128) (by decide)]
      omega
    have h3 : (firstF n).toNat ≠ (secondF n).toNat := by omega
    have h4 : (firstF n).toNat < 16 := by omega
    have h5 : (secondF n).toNat < 16 := by omega
    refine ⟨_, _, rfl, ?_⟩
    generalize (firstF n).toNat = i at *
    generalize (secondF n).toNat = j at *
    have key : ∀ i : Fin 16, ∀ j : Fin 16, i.val ≠ j.val → marksL.getD i.val 0 ∈ marksL ∧ marksL.getD j.val 0 ∈ marksL ∧ marksL.getD i.val 0 ≠ marksL.getD j.val 0 := by decide
    exact key ⟨i, h4⟩ ⟨j, h5⟩ h3
noncomputable def chF (m1 m2 v : Nat) : Nat := (abc62 ++ [m1, m2]).getD v 0
noncomputable def wr (m1 m2 : Nat) (fs : List Nat) : List Nat := fs.map (chF m1 m2)
noncomputable def u8 (l : List Nat) : List UInt8 := l.map (·.toUInt8)
theorem chF_lt {m1 m2 v : Nat} (h : v < 62) : chF m1 m2 v = abc62.getD v 0 := by
  unfold chF
  rw [List.getD_eq_getElem?_getD, List.getD_eq_getElem?_getD, List.getElem?_append_left (show v < 62 from h)]
theorem chF_62 (m1 m2 : Nat) : chF m1 m2 62 = m1 := rfl
theorem chF_63 (m1 m2 : Nat) : chF m1 m2 63 = m2 := rfl
theorem fig_cases {v : Nat} (h : v < 64) : v < 62 ∨ v = 62 ∨ v = 63 := by omega
theorem marks_lt : ∀ m ∈ marksL, m < 128 ∧ m ≠ 61 ∧ m ≠ 32 ∧ m.toUInt8.toNat = m := by decide
theorem abc_marks : ∀ v < 62, ∀ m ∈ marksL, (abc62.getD v 0).toUInt8 ≠ m.toUInt8 := by decide +kernel
theorem abc_b64 : ∀ v < 62, b64abc.getD v 0 = (abc62.getD v 0).toUInt8 ∧ b64abc.getD v 0 ≠ 43 ∧ b64abc.getD v 0 ≠ 47 := by decide +kernel
theorem b64_fig : ∀ v < 64, (b64abc.getD v 0).toNat ≠ 61 ∧ b64v (b64abc.getD v 0).toNat = (v : Int) := by decide +kernel
theorem abc_base : ∀ v < 62, BaseC (abc62.getD v 0) := by decide +kernel
theorem u8_inj {a b : Nat} (ha : a ∈ marksL) (hb : b ∈ marksL) (h : a.toUInt8 = b.toUInt8) : a = b := by
  rw [← (marks_lt a ha).2.2.2, ← (marks_lt b hb).2.2.2, h]
theorem bts_b64s (fs : List Nat) : bts (b64s fs) = fs.map fun v => b64abc.getD v 0 := by
  unfold bts b64s
  rw [List.map_map]
  refine List.map_congr_left fun v _ => ?_
  show ((((b64abc.getD v 0).toNat : Nat) : Int)).toNat.toUInt8 = _
  rw [Int.toNat_natCast]
  simp
theorem bts_app (a b : List Int) : bts (a ++ b) = bts a ++ bts b := by unfold bts; rw [List.map_append]
theorem trB_app (t a b : List UInt8) : trB t (a ++ b) = trB t a ++ trB t b := by unfold trB; rw [List.map_append]
theorem u8_app (a b : List Nat) : u8 (a ++ b) = u8 a ++ u8 b := by unfold u8; rw [List.map_append]
theorem u8_rep (p k : Nat) : u8 (List.replicate p k) = List.replicate p k.toUInt8 := by unfold u8; rw [List.map_replicate]
theorem bts_nat (l : List Nat) : bts (l.map fun x : Nat => (x : Int)) = u8 l := by
  unfold bts u8
  rw [List.map_map]
  rfl
section
variable {m1 m2 : Nat} (h1 : m1 ∈ marksL) (h2 : m2 ∈ marksL) (h12 : m1 ≠ m2)
include h1 h2 h12
theorem enc_tr : ∀ {fs : List Nat}, (∀ f ∈ fs, f < 64) → trB (mkTable [43, 47] (u8 [m1, m2])) (fs.map fun v => b64abc.getD v 0) = u8 (wr m1 m2 fs) := by
  intro fs hf
  unfold trB u8 wr
  rw [List.map_map, List.map_map]
  refine List.map_congr_left fun v hv => ?_
  show (mkTable [43, 47] [m1.toUInt8, m2.toUInt8]).getD (b64abc.getD v 0).toNat (b64abc.getD v 0) = (chF m1 m2 v).toUInt8
  rw [mkTable2]
  rcases fig_cases (hf v hv) with h | rfl | rfl
  · obtain ⟨e1, e2, e3⟩ := abc_b64 v h
    rw [if_neg e3, if_neg e2, e1, chF_lt h]
  · rw [if_neg (by decide), if_pos (by decide), chF_62]
  · rw [if_pos (by decide), chF_63]
theorem dec_tr : ∀ {fs : List Nat}, (∀ f ∈ fs, f < 64) → trB (mkTable (u8 [m1, m2]) [43, 47]) (u8 (wr m1 m2 fs)) = fs.map fun v => b64abc.getD v 0 := by
  intro fs hf
  unfold trB u8 wr
  rw [List.map_map, List.map_map]
  refine List.map_congr_left fun v hv => ?_
  show (mkTable [m1.toUInt8, m2.toUInt8] [43, 47]).getD (chF m1 m2 v).toUInt8.toNat (chF m1 m2 v).toUInt8 = b64abc.getD v 0
  rw [mkTable2]
  rcases fig_cases (hf v hv) with h | rfl | rfl
  · rw [chF_lt h, if_neg (abc_marks v h m2 h2), if_neg (abc_marks v h m1 h1), (abc_b64 v h).1]
  · rw [chF_62, if_neg (fun e => h12 (u8_inj h1 h2 e)), if_pos rfl]
    rfl
  · rw [chF_63, if_pos rfl]
    rfl
theorem dec_rep (p : Nat) : trB (mkTable (u8 [m1, m2]) [43, 47]) (List.replicate p 61) = List.replicate p 61 := by
  unfold trB
  rw [List.map_replicate]
  congr 1
  show (mkTable [m1.toUInt8, m2.toUInt8] [43, 47]).getD (61 : UInt8).toNat 61 = 61
  rw [mkTable2]
  have e1 : (61 : UInt8) ≠ m1.toUInt8 := fun e => (marks_lt m1 h1).2.1 (by rw [← (marks_lt m1 h1).2.2.2, ← e]; rfl)
  have e2 : (61 : UInt8) ≠ m2.toUInt8 := fun e => (marks_lt m2 h2).2.1 (by rw [← (marks_lt m2 h2).2.2.2, ← e]; rfl)
  rw [if_neg e2, if_neg e1]
theorem dec_blank : trB (mkTable (u8 [m1, m2]) [43, 47]) [32] = [32] := by
  unfold trB
  show [(mkTable [m1.toUInt8, m2.toUInt8] [43, 47]).getD (32 : UInt8).toNat 32] = [32]
  rw [mkTable2]
  have e1 : (32 : UInt8) ≠ m1.toUInt8 := fun e => (marks_lt m1 h1).2.2.1 (by rw [← (marks_lt m1 h1).2.2.2, ← e]; rfl)
  have e2 : (32 : UInt8) ≠ m2.toUInt8 := fun e => (marks_lt m2 h2).2.2.1 (by rw [← (marks_lt m2 h2).2.2.2, ← e]; rfl)
  rw [if_neg e2, if_neg e1]
theorem enc_rep (p : Nat) : trB (mkTable [43, 47] (u8 [m1, m2])) (List.replicate p 61) = List.replicate p 61 := by
  unfold trB
  rw [List.map_replicate]
  congr 1
  show (mkTable [43, 47] [m1.toUInt8, m2.toUInt8]).getD (61 : UInt8).toNat 61 = 61
  rw [mkTable2, if_neg (by decide), if_neg (by decide)]
theorem encF_wr (row : List UInt8) : encF row (u8 [m1, m2]) = u8 (wr m1 m2 (figF row) ++ List.replicate (padN (figF row)) 61) := by
  unfold encF
  rw [b2fin_fig, bts_app, bts_b64s, trB_app, enc_tr h1 h2 h12 (figF_lt row), u8_app, u8_rep]
  have e : bts (List.replicate (padN (figF row)) (61 : Int)) = List.replicate (padN (figF row)) 61 := by
    unfold bts; rw [List.map_replicate]; rfl
  rw [e, enc_rep h1 h2 h12]
  rfl
end
theorem figs_b64 : ∀ {fs : List Nat}, (∀ f ∈ fs, f < 64) → Figs (fs.map fun v => b64abc.getD v 0) fs
  | [], _ => .nil
  | f :: r, h => .cons (b64_fig f (h f (.head _))).1 (b64_fig f (h f (.head _))).2 (h f (.head _)) (figs_b64 fun x hx => h x (.tail _ hx))
/-- non-strict, the count of signs matters to nothing -/
noncomputable def a2fin : A2R → Except (List Nat) (List Int)
  | .go s => a2end s
  | .stop s => a2end s
  | .bad msg => .error msg
theorem a2F_fin (strict : Bool) (row : List UInt8) : a2F strict row = a2fin (a2run strict ⟨[], 0, 0, 0, 0⟩ row) := by
  unfold a2F a2fin
  cases a2run strict ⟨[], 0, 0, 0, 0⟩ row <;> rfl
theorem a2run_i : ∀ (r : List UInt8) (o : List Int) (q l p i j : Nat), a2fin (a2run false ⟨o, q, l, p, i⟩ r) = a2fin (a2run false ⟨o, q, l, p, j⟩ r)
  | [], o, q, l, p, i, j => rfl
  | c :: r, o, q, l, p, i, j => by
    have e1 : ∀ s, a2run false s (c :: r) = match a2step false s c with | .go s' => a2run false s' r | e => e := fun _ => rfl
    rw [e1, e1]
    unfold a2step
    dsimp only
    by_cases h61 : c.toNat = 61
    · rw [if_pos h61, if_pos h61]
      by_cases hq : 2 ≤ q ∧ q + p + 1 ≤ 4
      · rw [if_pos hq, if_pos hq]
        exact a2run_i r o q l (p + 1) (i + 1) (j + 1)
      · rw [if_neg hq, if_neg hq, if_pos rfl, if_pos rfl]
        exact a2run_i r o q l (p + 1) (i + 1) (j + 1)
    · rw [if_neg h61, if_neg h61]
      by_cases hb : 64 ≤ b64v c.toNat
      · rw [if_pos hb, if_pos hb, if_neg (by decide), if_neg (by decide)]
        exact a2run_i r o q l p (i + 1) (j + 1)
      · rw [if_neg hb, if_neg hb, if_neg (fun e => nomatch e.2), if_neg (fun e => nomatch e.2)]
        unfold a2put
        dsimp only
        split
        · exact a2run_i r _ _ _ _ (i + 1) (j + 1)
        · split
          · exact a2run_i r _ _ _ _ (i + 1) (j + 1)
          · split
            · exact a2run_i r _ _ _ _ (i + 1) (j + 1)
            · exact a2run_i r _ _ _ _ (i + 1) (j + 1)
theorem a2F_loose {cs : List UInt8} {fs : List Nat} (hf : Figs cs fs) (r : List UInt8) : a2F false (cs ++ 32 :: r) = a2F false (cs ++ r) := by
  obtain ⟨s, o, e, h⟩ := a2run_figs false hf a2ok_start
  rw [a2F_fin, a2F_fin, a2run_app, a2run_app, e]
  dsimp only
  have e1 : a2run false s (32 :: r) = match a2step false s 32 with | .go s' => a2run false s' r | e => e := rfl
  have e2 : a2step false s 32 = .go { s with i := s.i + 1 } := by
    unfold a2step
    rw [if_neg (by decide), if_pos (by decide), if_neg (by decide)]
  rw [e1, e2]
  exact a2run_i r _ _ _ _ _ _
/-- an exception of class 94 flies and has come to the frame of C -/
noncomputable def Thrown (C : Cx) (H : PH) (e : Addr) (msg : List Nat) (s : Shared) : Prop :=
  (∃ h tk, s = { C.s₀ with heap := h, toks := tk }) ∧ ∃ G mr news t tok, Fr C.h₀ C.env.locals G mr ∧ G.UpToSlots s.heap ∧ RaisedS C.base G (C.env :: C.outer) e (.ref 94) t [.str ⟨msg.toArray⟩ tok] news s.heap ∧
    ∀ a po, H a = some po → ∃ o, (a, o) ∈ news ∧ po.Rep o
/-- it was made in the frame of C -/
noncomputable def Made (C : Cx) (H : PH) (e : Addr) (msg : List Nat) (s : Shared) : Prop :=
  (∃ h tk, s = { C.s₀ with heap := h, toks := tk }) ∧ ∃ h mr news tok, Fr C.h₀ C.env.locals h mr ∧ News C.h₀ C.env.locals h news ∧ Heap.MadeExcOf h s.heap e (.ref 94) [.str ⟨msg.toArray⟩ tok] ∧
    ∀ a po, H a = some po → ∃ o, (a, o) ∈ news ∧ po.Rep o
theorem Called.made {C C' : Cx} {qual : Str} {sc : Scope} {f : Addr} {cdv : Value} {H : PH} {e : Addr} {msg : List Nat} {s : Shared} (K : Called C C' qual sc f cdv) (hcf : ∀ L, envOfC qual sc L f cdv = envOf qual sc L f cdv) (hk : sc.kind = .function)
    (X : Made C' H e msg s) (hQ : ∀ s', Thrown C H e msg s' → C.E (.ref e) s') : C'.E (.ref e) s := by
  obtain ⟨L', henv⟩ := K.env
  rw [hcf] at henv
  rw [K.E]
  dsimp only
  obtain ⟨⟨h1, tk1, hs⟩, h, mr, news, tok, F, N, hm, hv⟩ := X
  obtain ⟨mr0, F0⟩ := K.fr
  have B := K.ok.below
  rw [K.A₀, K.base, K.outer] at B
  rw [henv] at F N ⊢
  refine leave_raiseS B hm F N (fun h' t R _ U => hQ _ ⟨⟨h', tk1, ?_⟩, C'.h₀, mr0, news, t, tok, F0, U, R, hv⟩) hk
  rw [hs, K.s₀]
theorem Called.thrown {C C' : Cx} {qual : Str} {sc : Scope} {f : Addr} {cdv : Value} {H : PH} {e : Addr} {msg : List Nat} {s : Shared} (K : Called C C' qual sc f cdv) (hcf : ∀ L, envOfC qual sc L f cdv = envOf qual sc L f cdv)
    (X : Thrown C' H e msg s) (hQ : ∀ s', Thrown C H e msg s' → C.E (.ref e) s') : C'.E (.ref e) s := by
  obtain ⟨L', henv⟩ := K.env
  rw [hcf] at henv
  rw [K.E]
  dsimp only
  obtain ⟨⟨h1, tk1, hs⟩, G, mr, news, t, tok, F, U, R, hv⟩ := X
  obtain ⟨mr0, F0⟩ := K.fr
  have B := K.ok.below
  rw [K.A₀, K.base, K.outer] at B
  rw [K.base, K.outer] at R
  rw [henv] at F R ⊢
  refine leave_onS B F R U (fun h' R' _ U' => hQ _ ⟨⟨h', tk1, ?_⟩, C'.h₀, mr0, news, t, tok, F0, U', R', hv⟩)
  rw [hs, K.s₀]
theorem ex_raise {C : Cx} {m : Loc} {H : PH} {Q : FL → Loc → PH → Prop} (O : C.Ok) (F : KF C.K) (X : KX C.K) {qual : Str} {sc : Scope} {f L' : Addr} {cdv : Value} (henv : C.env = envOfC qual sc L' f cdv) (hcf : ∀ L, envOfC qual sc L f cdv = envOf qual sc L f cdv)
    (hx : C.env.kindOf (Str.ofString "Error") = some .globalImplicit) {e₀ : Expr} {np cpos pos : Pos} (hs : noStar e₀ = true)
    (h : Ev C e₀ m H (fun v H1 => ∃ msg, v = .str msg ∧ ∀ e s, Made C H1 e msg s → C.E (.ref e) s)) : Ex1 C (.Raise (some (.Call (.Name (Str.ofString "Error") np) [e₀] [] cpos)) none pos) m H Q := by
  intro R s Q' S hQ
  have S' := S
  obtain ⟨mr, news, S'⟩ := S'
  have O' := own_of_in O.kin O.top F.n_Error X.exc
  have FF := S'.fr
  have hkind := O.kind
  rw [hcf] at henv
  have hl : C.env.locals = L' := by rw [henv]; rfl
  rw [hl] at FF
  have key : wpAny (model C.prog C.w) C.A (spliced (backTo cpos (starEach [e₀] C.env))) (fun vs s₂ => vs.length ≤ sizeLine ∧ (∀ b o, C.h₀.get? b = some o → s₂.heap.get? b = some o) ∧
      ∀ h' e, Heap.MadeExcOf s₂.heap h' e (.ref 94) vs → C.E (.ref e) { s₂ with heap := h' }) C.E s := by
    rw [starEach_of hs]
    refine spliced_cons (h R s _ S fun v H1 s1 S1 q => ?_)
    refine spliced_nil ?_
    obtain ⟨msg, hv, hq⟩ := q
    obtain ⟨t, rfl⟩ := abs_str hv
    obtain ⟨mr1, news1, S1⟩ := S1
    refine ⟨by size_fits, S1.fr.keep, fun h' e hm => hq e _ ⟨?_, s1.heap, mr1, news1, t, S1.fr, S1.nw, hm, S1.view⟩⟩
    obtain ⟨h1, t1, rfl⟩ := S1.st
    exact ⟨h', t1, rfl⟩
  have hst := starEach_of (r := []) (env := C.env) hs
  rw [henv] at key hx hkind hst ⊢
  exact Raise_own FF O.top.g O' PySem.F.excBase_ValueError O.hand key hst rfl hkind hx (by decide)
/-! bounds along the run of the pure a2b -/
structure A2B (k : Nat) (s : A2) : Prop where
  out : okB s.out
  len : s.out.length ≤ k
  quad : s.quad < 4
  left : s.left < 64
  l2 : s.quad = 2 → s.left < 16
  l3 : s.quad = 3 → s.left < 4
  pads : s.pads ≤ k
  i : s.i ≤ k
theorem A2B.start : A2B 0 ⟨[], 0, 0, 0, 0⟩ := ⟨okB_nil, Nat.le_refl _, by decide, by decide, (fun h => nomatch h), (fun h => nomatch h), Nat.le_refl _, Nat.le_refl _⟩
theorem put_lt' {L v c d k : Nat} (hL : L < c) (hk : c * k = 256) (hv : v / d < k) : (0 : Int) ≤ ((L * k + v / d : Nat) : Int) ∧ ((L * k + v / d : Nat) : Int) < 256 :=
  ⟨Int.natCast_nonneg _, Int.ofNat_lt.mpr (put_lt hL hk hv)⟩
theorem A2B.put {k : Nat} {s : A2} (h : A2B k s) {v : Nat} (hv : v < 64) : A2B (k + 1) (a2put s v) := by
  obtain ⟨h1, h2, h3, h4, h5, h6, h7, h8⟩ := h
  obtain ⟨out, quad, left, pads, i⟩ := s
  dsimp only at h1 h2 h3 h4 h5 h6 h7 h8
  have hi := Nat.succ_le_succ h8
  have hl : ∀ x : Int, (out ++ [x]).length ≤ k + 1 := fun x => by rw [List.length_append]; exact Nat.succ_le_succ h2
  match quad, h3 with
  | 0, _ => exact ⟨h1, Nat.le_succ_of_le h2, (by decide : 1 < 4), hv, (fun e => nomatch e), (fun e => nomatch e), Nat.zero_le _, hi⟩
  | 1, _ => exact ⟨okB_app h1 (okB_cons (put_lt' h4 rfl (Nat.div_lt_of_lt_mul hv)) okB_nil), hl _, (by decide : 2 < 4), Nat.lt_trans (Nat.mod_lt v (by decide : 0 < 16)) (by decide), (fun _ => Nat.mod_lt v (by decide : 0 < 16)), (fun e => nomatch e), Nat.zero_le _, hi⟩
  | 2, _ => exact ⟨okB_app h1 (okB_cons (put_lt' (h5 rfl) rfl (Nat.div_lt_of_lt_mul hv)) okB_nil), hl _, (by decide : 3 < 4), Nat.lt_trans (Nat.mod_lt v (by decide : 0 < 4)) (by decide), (fun e => nomatch e), (fun _ => Nat.mod_lt v (by decide : 0 < 4)), Nat.zero_le _, hi⟩
  | 3, _ =>
    have hy := put_lt' (d := 1) (h6 rfl) (rfl : 4 * 64 = 256) (by rw [Nat.div_one]; exact hv)
    rw [Nat.div_one] at hy
    exact ⟨okB_app h1 (okB_cons hy okB_nil), hl _, (by decide : 0 < 4), (by decide : 0 < 64), (fun e => nomatch e), (fun e => nomatch e), Nat.zero_le _, hi⟩
theorem b64v_nonneg (c : Int) (h : 0 ≤ c) : 0 ≤ b64v c := by unfold b64v; repeat (first | split | omega)
theorem b64v_lt {c : Nat} (h : ¬ 64 ≤ b64v c) : (b64v c).toNat < 64 ∧ ((b64v c).toNat : Int) = b64v c := by
  have h0 := b64v_nonneg (c : Int) (Int.natCast_nonneg c)
  generalize b64v (c : Int) = x at *
  omega
theorem a2run_step {strict : Bool} {row : List UInt8} {k : Nat} {c : UInt8} {s : A2} (hc : row[k]? = some c) (h : a2run strict ⟨[], 0, 0, 0, 0⟩ (row.take k) = .go s) :
    a2run strict ⟨[], 0, 0, 0, 0⟩ row = match a2step strict s c with | .go s' => a2run strict s' (row.drop (k + 1)) | e => e := by
  have e : row = row.take k ++ c :: row.drop (k + 1) := by
    have h1 : row.drop k = c :: row.drop (k + 1) := by
      obtain ⟨hk, rfl⟩ := List.getElem?_eq_some_iff.mp hc
      exact List.drop_eq_getElem_cons hk
    rw [← h1, List.take_append_drop]
  conv => lhs; rw [e]
  rw [a2run_app, h]
  rfl
theorem a2run_take {strict : Bool} {row : List UInt8} {k : Nat} {c : UInt8} {s s' : A2} (hc : row[k]? = some c) (h : a2run strict ⟨[], 0, 0, 0, 0⟩ (row.take k) = .go s) (hs : a2step strict s c = .go s') :
    a2run strict ⟨[], 0, 0, 0, 0⟩ (row.take (k + 1)) = .go s' := by
  rw [List.take_add_one, hc, a2run_app, h]
  show a2run strict s [c] = _
  show (match a2step strict s c with | .go s' => a2run strict s' [] | e => e) = _
  rw [hs]
  rfl
theorem a2F_bad {strict : Bool} {row : List UInt8} {k : Nat} {c : UInt8} {s : A2} {msg : List Nat} (hc : row[k]? = some c) (h : a2run strict ⟨[], 0, 0, 0, 0⟩ (row.take k) = .go s) (hs : a2step strict s c = .bad msg) : a2F strict row = .error msg := by
  unfold a2F
  rw [a2run_step hc h, hs]
theorem a2F_stop {strict : Bool} {row : List UInt8} {k : Nat} {c : UInt8} {s s' : A2} (hc : row[k]? = some c) (h : a2run strict ⟨[], 0, 0, 0, 0⟩ (row.take k) = .go s) (hs : a2step strict s c = .stop s') : a2F strict row = a2end s' := by
  unfold a2F
  rw [a2run_step hc h, hs]
theorem a2F_go {strict : Bool} {row : List UInt8} {s : A2} (h : a2run strict ⟨[], 0, 0, 0, 0⟩ (row.take row.length) = .go s) : a2F strict row = a2end s := by
  rw [List.take_length] at h
  unfold a2F
  rw [h]
theorem msgOf_due (k : Nat) : (msgOf ((k : Nat) : Int)).cps.toList = dueMsg k := by
  unfold msgOf dueMsg
  show (PySem.Str.cps (_ ++ _)).toList = _
  rw [show ∀ a b : PySem.Str, (a ++ b).cps.toList = a.cps.toList ++ b.cps.toList from fun a b => by show (a.cps ++ b.cps).toList = _; simp]
  rw [show ∀ a b : PySem.Str, (a ++ b).cps.toList = a.cps.toList ++ b.cps.toList from fun a b => by show (a.cps ++ b.cps).toList = _; simp]
set_option maxHeartbeats 8000000 in
theorem spec_a2b {C : Cx} {m : Loc} {H : PH} {Q : PV → PH → Prop} (O : C.Ok) (F : KF C.K) (X : KX C.K) (hr : C.A.depth + 1 < recursionLimit) {row : List UInt8} {strict : Bool} (hrow : row.length ≤ 100)
    (hok : ∀ ns, a2F strict row = .ok ns → okB ns → ∀ H', Ext H H' → Q (.bytes (bts ns)) H') (herr : ∀ msg, a2F strict row = .error msg → ∀ H', Ext H H' → ∀ e s, Thrown C H' e msg s → C.E (.ref e) s) :
    Ca C m (.ref 133) [.bytes row] [(Str.ofString "strict_mode", .bool strict)] H Q := by
  refine call_fn O (Nat.lt_of_succ_lt hr) [(Str.ofString "data", .bytes row), (Str.ofString "strict_mode", .bool strict)] F.f21.at_ F.f21.code ?_ (loc_of (by kernel_rfl)) (by decide +kernel) (by decide +kernel) (by decide +kernel) (by kernel_rfl) (by kernel_rfl) (by kernel_rfl) ?_
  · intro s vs ks _ hv hk
    obtain ⟨v, rfl, hv'⟩ := args1 hv
    obtain ⟨u, rfl, hu⟩ := kws1 hk
    exact ⟨[(Str.ofString "data", v), (Str.ofString "strict_mode", u)], BindsTo.of_eq (by kernel_rfl), by simp [hv', hu]⟩
  · intro C' K
    have hr' : C'.A.depth < recursionLimit := by rw [K.depth]; exact hr
    have n0 : C'.env.scope.names[0]? = some (Str.ofString "data", NameKind.local) := by rw [K.scope]; rfl
    have w0 : Slot' C' (Str.ofString "data") 0 := .inl n0
    have n1 : C'.env.scope.names[1]? = some (Str.ofString "strict_mode", NameKind.local) := by rw [K.scope]; rfl
    have w1 : Slot' C' (Str.ofString "strict_mode") 1 := .inl n1
    have n2 : C'.env.scope.names[2]? = some (Str.ofString "ascii_data", NameKind.local) := by rw [K.scope]; rfl
    have w2 : Slot' C' (Str.ofString "ascii_data") 2 := .inl n2
    have n3 : C'.env.scope.names[3]? = some (Str.ofString "out", NameKind.local) := by rw [K.scope]; rfl
    have w3 : Slot' C' (Str.ofString "out") 3 := .inl n3
    have n4 : C'.env.scope.names[4]? = some (Str.ofString "quad_pos", NameKind.local) := by rw [K.scope]; rfl
    have w4 : Slot' C' (Str.ofString "quad_pos") 4 := .inl n4
    have n5 : C'.env.scope.names[5]? = some (Str.ofString "leftchar", NameKind.local) := by rw [K.scope]; rfl
    have w5 : Slot' C' (Str.ofString "leftchar") 5 := .inl n5
    have n6 : C'.env.scope.names[6]? = some (Str.ofString "pads", NameKind.local) := by rw [K.scope]; rfl
    have w6 : Slot' C' (Str.ofString "pads") 6 := .inl n6
    have n7 : C'.env.scope.names[7]? = some (Str.ofString "i", NameKind.local) := by rw [K.scope]; rfl
    have w7 : Slot' C' (Str.ofString "i") 7 := .inl n7
    have n8 : C'.env.scope.names[8]? = some (Str.ofString "this_ch", NameKind.local) := by rw [K.scope]; rfl
    have w8 : Slot' C' (Str.ofString "this_ch") 8 := .inl n8
    have g9 : C'.env.kindOf (Str.ofString "_ascii_buffer") = some .globalImplicit := kind_is K.scope (by kernel_rfl)
    have g10 : C'.env.kindOf (Str.ofString "_truth") = some .globalImplicit := kind_is K.scope (by kernel_rfl)
    have g11 : C'.env.kindOf (Str.ofString "Error") = some .globalImplicit := kind_is K.scope (by kernel_rfl)
    have g12 : C'.env.kindOf (Str.ofString "_b64_value") = some .globalImplicit := kind_is K.scope (by kernel_rfl)
    have g13 : C'.env.kindOf (Str.ofString "len") = some .globalImplicit := kind_is K.scope (by kernel_rfl)
    have g14 : C'.env.kindOf (Str.ofString "bytes") = some .globalImplicit := kind_is K.scope (by kernel_rfl)
    have O' := K.ok
    have F' := K.kf F
    have hin := inter_of O'
    have b9 := is_F O' g9 F'.f16 (by decide)
    have q9 := kp_K O' F'.f16.keep
    have b10 := is_F O' g10 F'.f18 (by decide)
    have q10 := kp_K O' F'.f18.keep
    have b12 := is_F O' g12 F'.f20 (by decide)
    have q12 := kp_K O' F'.f20.keep
    have b13 := is_len O' F' g13
    have b14 := is_bytes O' F' g14
    have X' : KX C'.K := by
      have := K.g
      show KX C'.g.K
      rw [this]
      exact X
    obtain ⟨L', henv⟩ := K.env
    have hcf : ∀ L, envOfC (Str.ofString "a2b_base64") (scopeN 21) L 133 (.ref 132) = envOf (Str.ofString "a2b_base64") (scopeN 21) L 133 (.ref 132) := fun L => by kernel_rfl
    have hmade : ∀ msg, a2F strict row = .error msg → ∀ H1, Ext H H1 → ∀ e s, Made C' H1 e msg s → C'.E (.ref e) s := fun msg he H1 hE e s hm => K.made hcf (by kernel_rfl) hm fun s' ht => herr msg he H1 hE e s' ht
    rw [show initLoc (scopeN 21).names [(Str.ofString "data", PV.bytes row), (Str.ofString "strict_mode", .bool strict)].reverse = [some (.bytes row), some (.bool strict), none, none, none, none, none, none, none, none, none, none, none, none, none] by kernel_rfl]
    refine exs_letm ?_
    intro M0
    refine exs_cons ?_
    repeat walk_at "v1"
    refine spec_ascii O' F' hr' ?_
    repeat walk_at "v1"
    refine spec_truth O' F' hr' ?_
    repeat walk_at "v1"
    refine ⟨by simp, fun a ha => ?_⟩
    repeat walk_at "v1"
    let M : Nat → Nat → Nat → Nat → Option PV → Loc := fun quad left pads i x => [some (.bytes row), some (.bool strict), some (.bytes row), some (.ref a), some (.int quad), some (.int left), some (.int pads), some (.int i), x, none, none, none, none, none, none]
    have tail : ∀ (s : A2) (k : Nat) (x : Option PV) (H1 : PH), A2B k s → k ≤ 101 → a2F strict row = a2end s → H1 a = some (.list (s.out.map .int)) → Ext H H1 →
        Exs C' ((bodyN 21).drop 8) (M s.quad s.left s.pads s.i x) H1 (Fin' Q) := by
      intro s k x H1 hB hk hF hH hE
      show Exs C' (_ :: _) _ _ _
      obtain ⟨out, quad, left, pads, i⟩ := s
      obtain ⟨hokB, hlen, hq, _, _, _, hp, hi⟩ := hB
      dsimp only at hokB hlen hq hp hi hH ⊢
      unfold a2end at hF
      dsimp only at hF
      refine exs_cons ?_
      refine ex_if_cut (decide (quad = 1)) ?_ ?_
      · repeat walk_at "v1"
        exact ⟨by first | (by_cases e : quad = 1 <;> simp [e] <;> omega), rfl⟩
      refine ite_dec (fun c1 => ?_) (fun c1 => ?_)
      · rw [if_pos c1] at hF
        refine exs_last ?_
        refine ex_raise O' F' X' henv hcf g11 (by rfl) ?_
        walk_at "v1"
        walk_at "v1"
        repeat walk_at "v1"
        refine ca_len_list hH (by rw [List.length_map]; omega) ?_
        rw [List.length_map]
        repeat walk_at "v1"
        refine bin_div (j := 3) (by decide) (by decide) ?_
        repeat walk_at "v1"
        refine bin_mul (.inr (by decide)) ?_
        repeat walk_at "v1"
        rw [show ((out.length : Int).fdiv 3 * 4 + 1) = ((out.length / 3 * 4 + 1 : Nat) : Int) by rw [Int.fdiv_eq_ediv_of_nonneg _ (by decide)]; rfl]
        refine bin_modMsg (by omega) (by omega) ?_
        exact ⟨_, rfl, fun e s hm => hmade _ hF H1 hE e s (by rw [msgOf_due] at hm; exact hm)⟩
      · rw [if_neg c1] at hF
        refine exs_nil ?_
        refine sq_next ?_
        refine exs_cons ?_
        refine ex_if_cut (decide (quad ≠ 0 ∧ quad + pads < 4)) ?_ ?_
        · repeat walk_at "v2"
          all_goals
            refine ⟨?_, rfl⟩
            first | (symm; exact decide_eq_true (by omega)) | (symm; exact decide_eq_false (by omega))
        refine ite_dec (fun c2 => ?_) (fun c2 => ?_)
        · rw [if_pos c2] at hF
          refine exs_last ?_
          refine ex_raise O' F' X' henv hcf g11 (by rfl) ?_
          walk_at "v1"
          exact ⟨_, rfl, fun e s hm => hmade _ hF H1 hE e s hm⟩
        · rw [if_neg c2] at hF
          refine exs_nil ?_
          refine sq_next ?_
          refine exs_last ?_
          repeat walk_at "v1"
          refine ca_bytes O' hH hokB (by omega) ?_
          show Q _ _
          exact hok _ hF hokB _ hE
    let I : Nat → Loc → PH → Prop := fun k m1 H1 => ∃ (s : A2) (x : Option PV), m1 = M s.quad s.left s.pads s.i x ∧
      H1 a = some (.list (s.out.map .int)) ∧ a2run strict ⟨[], 0, 0, 0, 0⟩ (row.take k) = .go s ∧ A2B k s ∧ Ext H H1
    refine ex_for_bytes O' w8 row I ?_ ?_ ?_ (by intro _; with_unfolding_all rfl)
    · walk_at "v1"
      exact ⟨rfl, ⟨[], 0, 0, 0, 0⟩, none, rfl, set_self, rfl, A2B.start, Ext.set ha⟩
    · rintro k c m1 H1 hc ⟨s, x, rfl, hH, hrun, hB, hE⟩
      have hk : k < row.length := (List.getElem?_eq_some_iff.mp hc).1
      have hB' := hB
      let P : A2R → Prop := fun r => match r with
        | .go s' => a2run strict ⟨[], 0, 0, 0, 0⟩ (row.take (k + 1)) = .go s'
        | .bad msg => a2F strict row = .error msg
        | .stop s' => a2F strict row = a2end s'
      have hres : P (a2step strict s c) := by
        cases hs : a2step strict s c with
        | go s' => exact a2run_take hc hrun hs
        | bad msg => exact a2F_bad hc hrun hs
        | stop s' => exact a2F_stop hc hrun hs
      obtain ⟨out, quad, left, pads, i⟩ := s
      obtain ⟨hokB, hlen, hq, hl, hl2, hl3, hp, hi⟩ := hB
      dsimp only at hokB hlen hq hl hl2 hl3 hp hi hH ⊢
      unfold a2step at hres
      dsimp only at hres
      refine exs_cons ?_
      refine ex_if_cut (decide (c.toNat = 61)) ?_ ?_
      · repeat walk_at "v1"
        refine ⟨?_, rfl⟩
        by_cases e : c.toNat = 61 <;> simp [e] <;> omega
      refine ite_dec (fun c1 => ?_) (fun c1 => ?_)
      · rw [if_pos c1] at hres
        refine exs_cons ?_
        repeat walk_at "vx"
        refine sq_next ?_
        refine exs_cons ?_
        refine ex_if_cut (decide (2 ≤ quad ∧ quad + pads + 1 ≤ 4)) ?_ ?_
        · repeat walk_at "v2"
          all_goals
            refine ⟨?_, rfl⟩
            first | (symm; exact decide_eq_true (by omega)) | (symm; exact decide_eq_false (by omega))
        refine ite_dec (fun c2 => ?_) (fun c2 => ?_)
        · rw [if_pos c2] at hres
          repeat walk_at "v1"
          exact ⟨_, _, rfl, hH, hres, ⟨hokB, by dsimp only; omega, hq, hl, hl2, hl3, by dsimp only; omega, by dsimp only; omega⟩, hE⟩
        · rw [if_neg c2] at hres
          refine exs_nil ?_
          refine sq_next ?_
          refine exs_cons ?_
          refine ex_if_cut (!strict) ?_ ?_
          · repeat walk_at "v1"
            exact ⟨rfl, rfl⟩
          refine ite_b (fun c3 => ?_) (fun c3 => ?_)
          · have c3' : strict = false := by simpa using c3
            rw [if_pos c3'] at hres
            repeat walk_at "v1"
            exact ⟨_, _, rfl, hH, hres, ⟨hokB, by dsimp only; omega, hq, hl, hl2, hl3, by dsimp only; omega, by dsimp only; omega⟩, hE⟩
          · have c3' : ¬ strict = false := by simpa using c3
            rw [if_neg c3'] at hres
            refine exs_nil ?_
            refine sq_next ?_
            refine exs_cons ?_
            refine ex_if_cut (decide (quad = 1)) ?_ ?_
            · repeat walk_at "v1"
              refine ⟨?_, rfl⟩
              by_cases e : quad = 1 <;> simp [e] <;> omega
            refine ite_dec (fun c4 => ?_) (fun c4 => ?_)
            · rw [if_pos c4] at hres
              refine exs_cons ?_
              refine ex_break ?_
              repeat refine sq_brk ?_
              show Sq C' _ _ .next _ _
              refine sq_next ?_
              exact tail ⟨out, quad, left, pads + 1, i⟩ (k + 1) _ H1 ⟨hokB, by dsimp only; omega, hq, hl, hl2, hl3, by dsimp only; omega, by dsimp only; omega⟩ (by omega) hres hH hE
            · rw [if_neg c4] at hres
              refine exs_nil ?_
              refine sq_next ?_
              refine exs_cons ?_
              refine ex_if_cut (decide (quad = 0 ∧ i = 0)) ?_ ?_
              · repeat walk_at "v2"
                all_goals
                  refine ⟨?_, rfl⟩
                  first | (symm; exact decide_eq_true (by omega)) | (symm; exact decide_eq_false (by omega))
              refine ite_dec (fun c5 => ?_) (fun c5 => ?_)
              · rw [if_pos c5] at hres
                refine exs_last ?_
                refine ex_raise O' F' X' henv hcf g11 (by rfl) ?_
                walk_at "v1"
                exact ⟨_, rfl, fun e s hm => hmade _ hres H1 hE e s hm⟩
              · rw [if_neg c5] at hres
                refine exs_nil ?_
                refine sq_next ?_
                refine exs_last ?_
                refine ex_raise O' F' X' henv hcf g11 (by rfl) ?_
                walk_at "v1"
                exact ⟨_, rfl, fun e s hm => hmade _ hres H1 hE e s hm⟩
      · rw [if_neg c1] at hres
        refine exs_nil ?_
        refine sq_next ?_
        refine exs_cons ?_
        repeat walk_at "vx"
        refine spec_b64v O' F' hr' ?_
        repeat walk_at "vx"
        refine sq_next ?_
        refine exs_cons ?_
        refine ex_if_cut (decide (64 ≤ b64v c.toNat)) ?_ ?_
        · repeat walk_at "v1"
          exact ⟨rfl, rfl⟩
        refine ite_dec (fun c2 => ?_) (fun c2 => ?_)
        · rw [if_pos c2] at hres
          refine exs_cons ?_
          refine ex_if_cut strict ?_ ?_
          · repeat walk_at "v1"
            exact ⟨rfl, rfl⟩
          refine ite_b (fun c3 => ?_) (fun c3 => ?_)
          · rw [if_pos c3] at hres
            refine exs_last ?_
            refine ex_raise O' F' X' henv hcf g11 (by rfl) ?_
            walk_at "v1"
            exact ⟨_, rfl, fun e s hm => hmade _ hres H1 hE e s hm⟩
          · rw [if_neg (by simp [c3])] at hres
            repeat walk_at "v1"
            exact ⟨_, _, rfl, hH, hres, ⟨hokB, by dsimp only; omega, hq, hl, hl2, hl3, by dsimp only; omega, by dsimp only; omega⟩, hE⟩
        · rw [if_neg c2] at hres
          refine exs_nil ?_
          refine sq_next ?_
          refine exs_cons ?_
          refine ex_if_cut (decide (pads ≠ 0 ∧ strict = true)) ?_ ?_
          · cases strict
            · repeat walk_at "v2"
              all_goals
                refine ⟨?_, rfl⟩
                first | (symm; exact decide_eq_true (by omega)) | (symm; exact decide_eq_false (by simp)) | simp
            · repeat walk_at "v2"
              all_goals
                refine ⟨?_, rfl⟩
                first | (symm; exact decide_eq_true ⟨by omega, rfl⟩) | (symm; exact decide_eq_false (fun e => by have := e.1; omega))
          refine ite_dec (fun c3 => ?_) (fun c3 => ?_)
          · rw [if_pos c3] at hres
            refine exs_cons ?_
            refine ex_if_cut (decide (quad + pads = 4)) ?_ ?_
            · repeat walk_at "v1"
              refine ⟨?_, rfl⟩
              by_cases e : quad + pads = 4 <;> simp [e] <;> omega
            refine ite_dec (fun c4 => ?_) (fun c4 => ?_)
            · rw [if_pos c4] at hres
              refine exs_last ?_
              refine ex_raise O' F' X' henv hcf g11 (by rfl) ?_
              walk_at "v1"
              exact ⟨_, rfl, fun e s hm => hmade _ hres H1 hE e s hm⟩
            · rw [if_neg c4] at hres
              refine exs_nil ?_
              refine sq_next ?_
              refine exs_last ?_
              refine ex_raise O' F' X' henv hcf g11 (by rfl) ?_
              walk_at "v1"
              exact ⟨_, rfl, fun e s hm => hmade _ hres H1 hE e s hm⟩
          · rw [if_neg c3] at hres
            obtain ⟨hv, hvi⟩ := b64v_lt c2
            have hBp := hB'.put hv
            generalize hvg : (b64v c.toNat).toNat = v at *
            rw [← hvi]
            refine exs_nil ?_
            refine sq_next ?_
            refine exs_cons ?_
            repeat walk_at "vx"
            refine sq_next ?_
            unfold a2put at hres hBp
            dsimp only at hres hBp
            rcases (by omega : quad = 0 ∨ quad = 1 ∨ quad = 2 ∨ quad = 3) with rfl | rfl | rfl | rfl
            · rw [if_pos rfl] at hres hBp
              refine exs_cons ?_
              repeat walk_at "v1"
              refine ite_bT (by decide) ?_
              repeat walk_at "v1"
              exact ⟨_, _, rfl, hH, hres, hBp, hE⟩
            · rw [if_neg (by decide), if_pos rfl] at hres hBp
              refine exs_cons ?_
              repeat walk_at "v1"
              refine ite_bF (by decide) ?_
              repeat walk_at "v1"
              refine ite_bT (by decide) ?_
              repeat walk_at "v1"
              refine ⟨a, rfl, ⟨_, hH⟩, ?_⟩
              repeat walk_at "v1"
              refine bin_shl' (by decide) (by decide) (by omega) rfl ?_
              repeat walk_at "v1"
              refine bin_shr' (by decide) (k := ((v / 16 : Nat) : Int)) (shr_nat v 4) ?_
              refine bin_or' (or_shift left (v / 16) 2 (by omega)) ?_
              refine ⟨_, hH, by rw [List.length_map]; omega, ?_⟩
              repeat walk_at "v1"
              refine bin_and' (k := ((v % 16 : Nat) : Int)) (by rw [bitAnd_m4]; rfl) ?_
              repeat walk_at "v1"
              exact ⟨_, _, rfl, by rw [set_self, List.map_append]; rfl, hres, hBp, Ext.mut ha hE⟩
            · rw [if_neg (by decide), if_neg (by decide), if_pos rfl] at hres hBp
              refine exs_cons ?_
              repeat walk_at "v1"
              refine ite_bF (by decide) ?_
              repeat walk_at "v1"
              refine ite_bF (by decide) ?_
              repeat walk_at "v1"
              refine ite_bT (by decide) ?_
              repeat walk_at "v1"
              refine ⟨a, rfl, ⟨_, hH⟩, ?_⟩
              repeat walk_at "v1"
              refine bin_shl' (by decide) (by decide) (by omega) rfl ?_
              repeat walk_at "v1"
              refine bin_shr' (by decide) (k := ((v / 4 : Nat) : Int)) (shr_nat v 2) ?_
              refine bin_or' (or_shift left (v / 4) 4 (by omega)) ?_
              refine ⟨_, hH, by rw [List.length_map]; omega, ?_⟩
              repeat walk_at "v1"
              refine bin_and' (k := ((v % 4 : Nat) : Int)) (by rw [bitAnd_m2]; rfl) ?_
              repeat walk_at "v1"
              exact ⟨_, _, rfl, by rw [set_self, List.map_append]; rfl, hres, hBp, Ext.mut ha hE⟩
            · rw [if_neg (by decide), if_neg (by decide), if_neg (by decide)] at hres hBp
              refine exs_cons ?_
              repeat walk_at "v1"
              refine ite_bF (by decide) ?_
              repeat walk_at "v1"
              refine ite_bF (by decide) ?_
              repeat walk_at "v1"
              refine ite_bF (by decide) ?_
              repeat walk_at "v1"
              refine ⟨a, rfl, ⟨_, hH⟩, ?_⟩
              repeat walk_at "v1"
              refine bin_shl' (by decide) (by decide) (by omega) rfl ?_
              repeat walk_at "v1"
              refine bin_or' (or_shift left v 6 (by omega)) ?_
              refine ⟨_, hH, by rw [List.length_map]; omega, ?_⟩
              repeat walk_at "v1"

              exact ⟨_, _, rfl, by rw [set_self, List.map_append]; rfl, hres, hBp, Ext.mut ha hE⟩
    · rintro m1 H1 ⟨s, x, rfl, hH, hrun, hB, hE⟩
      refine sq_next ?_
      exact tail s row.length x H1 hB (by omega) (a2F_go hrun) hH hE
inductive Asc : PV → List UInt8 → Prop
  | b (l : List UInt8) : l.length ≤ 100 → Asc (.bytes l) l
  | s (l : List Nat) : l.length ≤ 100 → (∀ c ∈ l, c < 128) → Asc (.str l) (l.map (·.toUInt8))
theorem Asc.len {v : PV} {l : List UInt8} (h : Asc v l) : l.length ≤ 100 := by
  cases h with
  | b _ h => exact h
  | s _ h _ => simpa using h
theorem Asc.notNone {v : PV} {l : List UInt8} (h : Asc v l) : v ≠ .none := by cases h <;> intro e <;> cases e
theorem spec_bfd {C : Cx} {m : Loc} {H : PH} {Q : PV → PH → Prop} (O : C.Ok) (F : KF C.K) (hr : C.A.depth < recursionLimit) {v : PV} {l : List UInt8} (hv : Asc v l) (h : Q (.bytes l) H) : Ca C m (.ref 84) [v] [] H Q := by
  cases hv with
  | b l hl => exact spec_bfd_bytes O F hr h
  | s l hl hc => exact spec_bfd_str O F hr hc (by omega) h
noncomputable def decF (strict : Bool) (cs alt : List UInt8) : Except (List Nat) (List Int) := a2F strict (trB (mkTable alt [43, 47]) cs)
set_option maxHeartbeats 8000000 in
theorem spec_decode {C : Cx} {m : Loc} {H : PH} {Q : PV → PH → Prop} (O : C.Ok) (F : KF C.K) (X : KX C.K) (hr : C.A.depth + 2 < recursionLimit) {sv av : PV} {row alt : List UInt8} {strict : Bool} {args : List PV} (hs : Asc sv row) (ha : Asc av alt) (halt : alt.length = 2)
    (hargs : args = [sv, av, .bool strict] ∨ (args = [sv, av] ∧ strict = false))
    (hok : ∀ ns, decF strict row alt = .ok ns → okB ns → ∀ H', Ext H H' → Q (.bytes (bts ns)) H') (herr : ∀ msg, decF strict row alt = .error msg → ∀ H', Ext H H' → ∀ e s, Thrown C H' e msg s → C.E (.ref e) s) :
    Ca C m (.ref 157) args [] H Q := by
  refine call_fn O (by omega) [(Str.ofString "s", sv), (Str.ofString "altchars", av), (Str.ofString "validate", .bool strict)] F.f25.at_ F.f25.code ?_ (loc_of (by kernel_rfl)) (by decide +kernel) (by decide +kernel) (by decide +kernel) (by kernel_rfl) (by kernel_rfl) (by kernel_rfl) ?_
  · intro s vs ks X hv hk
    cases kws0 hk
    rcases hargs with rfl | ⟨rfl, rfl⟩
    · obtain ⟨v, u, w, rfl, hv', hu, hw⟩ := args3 hv
      exact ⟨[(Str.ofString "s", v), (Str.ofString "altchars", u), (Str.ofString "validate", w)], BindsTo.of_defaults rfl (X _ _ F.o150) rfl (by with_unfolding_all rfl) (by with_unfolding_all rfl), by simp [hv', hu, hw]⟩
    · obtain ⟨v, u, rfl, hv', hu⟩ := args2 hv
      exact ⟨[(Str.ofString "s", v), (Str.ofString "altchars", u), (Str.ofString "validate", .bool false)], BindsTo.of_defaults rfl (X _ _ F.o150) rfl (by with_unfolding_all rfl) (by with_unfolding_all rfl), by subst hv' hu; rfl⟩
  · intro C' K
    have hr' : C'.A.depth + 1 < recursionLimit := by rw [K.depth]; omega
    have n0 : C'.env.scope.names[0]? = some (Str.ofString "s", NameKind.local) := by rw [K.scope]; rfl
    have w0 : Slot' C' (Str.ofString "s") 0 := .inl n0
    have n1 : C'.env.scope.names[1]? = some (Str.ofString "altchars", NameKind.local) := by rw [K.scope]; rfl
    have w1 : Slot' C' (Str.ofString "altchars") 1 := .inl n1
    have n2 : C'.env.scope.names[2]? = some (Str.ofString "validate", NameKind.local) := by rw [K.scope]; rfl
    have w2 : Slot' C' (Str.ofString "validate") 2 := .inl n2
    have g3 : C'.env.kindOf (Str.ofString "_bytes_from_decode_data") = some .globalImplicit := kind_is K.scope (by kernel_rfl)
    have g4 : C'.env.kindOf (Str.ofString "len") = some .globalImplicit := kind_is K.scope (by kernel_rfl)
    have g5 : C'.env.kindOf (Str.ofString "repr") = some .globalImplicit := kind_is K.scope (by kernel_rfl)
    have g6 : C'.env.kindOf (Str.ofString "bytes") = some .globalImplicit := kind_is K.scope (by kernel_rfl)
    have g7 : C'.env.kindOf (Str.ofString "a2b_base64") = some .globalImplicit := kind_is K.scope (by kernel_rfl)
    have O' := K.ok
    have F' := K.kf F
    have hin := inter_of O'
    have b3 := is_F O' g3 F'.f13 (by decide)
    have q3 := kp_K O' F'.f13.keep
    have b4 := is_len O' F' g4
    have b6 := is_bytes O' F' g6
    have b7 := is_F O' g7 F'.f21 (by decide)
    have q7 := kp_K O' F'.f21.keep
    have X' : KX C'.K := by
      have := K.g
      show KX C'.g.K
      rw [this]
      exact X
    have hcf : ∀ L, envOfC (Str.ofString "b64decode") (scopeN 25) L 157 (.ref 156) = envOf (Str.ofString "b64decode") (scopeN 25) L 157 (.ref 156) := fun L => by kernel_rfl
    have herr' : ∀ msg, decF strict row alt = .error msg → ∀ H1, Ext H H1 → ∀ e s, Thrown C' H1 e msg s → C'.E (.ref e) s := fun msg he H1 hE e s ht => K.thrown hcf ht fun s' ht' => herr msg he H1 hE e s' ht'
    have hlen := hs.len
    rw [show initLoc (scopeN 25).names [(Str.ofString "s", sv), (Str.ofString "altchars", av), (Str.ofString "validate", .bool strict)].reverse = [some sv, some av, some (.bool strict), none, none, none, none, none] by kernel_rfl]
    refine exs_letm ?_
    intro M0
    refine exs_cons ?_
    repeat walk_at "v1"
    refine spec_bfd O' F' (by omega) hs ?_
    have hav : Asc av alt := ha
    repeat walk_at "vx"
    refine sq_next ?_
    refine exs_cons ?_
    refine ex_if_cut true ?_ ?_
    · cases hav with
      | b l hl =>
        repeat walk_at "v1"
        exact ⟨rfl, rfl⟩
      | s l hl hc =>
        repeat walk_at "v1"
        exact ⟨rfl, rfl⟩
    refine ite_T ?_
    repeat walk_at "v1"
    refine spec_bfd O' F' (by omega) ha ?_
    repeat walk_at "v1"
    refine ca_len_bytes (by omega) ?_
    repeat walk_at "v1"
    refine ⟨by rw [halt]; rfl, ?_⟩
    repeat walk_at "v1"
    refine ev_method "bytes" "bytes.translate" FB.plainAttrs_bytes slot_bytes_translate type_bytes_translate ?_ (by with_unfolding_all rfl) (by with_unfolding_all rfl) (by intro _; with_unfolding_all rfl) (by simp)
    repeat walk_at "v1"
    refine ⟨rfl, ?_⟩
    walk_at "v1"
    refine ev_maketrans O' F' ?_ (by with_unfolding_all rfl) (by with_unfolding_all rfl) (by intro _; with_unfolding_all rfl)
    repeat walk_at "v1"
    refine ⟨rfl, ?_⟩
    repeat walk_at "v1"
    refine ca_maketrans (by rw [halt]; rfl) ?_
    repeat walk_at "v1"
    refine ca_transB (mkTable_size _ _) (by omega) ?_
    repeat walk_at "v1"
    refine ev_callFkw O' (by assumption) F'.f21 ?_ (by intro _; with_unfolding_all rfl) (by with_unfolding_all rfl)
    repeat walk_at "v1"
    refine spec_a2b O' F' X' hr' (by unfold trB; rw [List.length_map]; omega) (fun ns he hb H1 hE => ?_) (fun msg he H1 hE e s ht => herr' msg he H1 hE e s ht)
    repeat walk_at "v1"
    show Q _ _
    exact hok ns he hb H1 hE
noncomputable abbrev nmDec : Str := Str.ofString "_law_decoded"
theorem loc_kind {env : Env} {x : Str} (h : env.scope.names.lookup x = some .local) : env.kindOf x = some .local := by unfold Env.kindOf; rw [h]
theorem kind_of {env : Env} {x : Str} {k : NameKind} (h : env.scope.names.lookup x = some k) : env.kindOf x = some k := by unfold Env.kindOf; rw [h]
theorem caught_str {C C1 : Cx} {L1 : Addr} (K : Called C C1 nmDec (scopeN 33) 202 (.ref 201)) (henv : C1.env = envOf nmDec (scopeN 33) L1 202 (.ref 201)) (F : KF C.K) (X : KX C.K) {mean : ExcName → Option Value}
    (XB : C.K.In C.base) (TB : Top C.g.p C.g.loose mean C.g.mg C.g.mb C.base) (D : KtsDicts ((C.env :: C.outer).filterMap (·.frame)) C1.h₀) (hu : C.A.units + 10 < cLine)
    {H' : PH} {e : Addr} {msg : List Nat} {s : Shared} (ht : Thrown C1 H' e msg s) {Q2 : Flow → Shared → Prop} {E2 : Value → Shared → Prop} {p1 p2 p3 p4 p5 p6 : Pos} {rest : List ExceptHandler}
    (hQ : ∀ h5 tk tok g' mr5 news, KtsTurn ((C.env :: C.outer).filterMap (·.frame)) C1.h₀ g' → Fr g' L1 h5 mr5 → News g' L1 h5 news → (∀ a po, H' a = some po → ∃ o, (a, o) ∈ news ∧ po.Rep o) →
      Q2 (.ret (.str ⟨msg.toArray⟩ tok)) { C.s₀ with heap := h5, toks := tk }) :
    wpAny (model C.prog C.w) C1.A (noteFrame (.ref e) C1.env) (fun _ s₂ => wpAny (model C.prog C.w) C1.A (setFlight (.ref e) none) (fun _ s₃ =>
      wpAny (model C.prog C.w) C1.A (handleBy (.ref e) C1.env (.ExceptHandler (some (.Name (Str.ofString "ValueError") p1)) (some (Str.ofString "error"))
        [.Return (some (.Call (.Name (Str.ofString "str") p2) [.Name (Str.ofString "error") p3] [] p4)) p5] p6 :: rest)) Q2 E2 s₃) E2 s₂) E2 s := by
  obtain ⟨⟨h0, tk0, hs⟩, G, mr, news, t, tok, FG, U, R, hv⟩ := ht
  have B := K.ok.below
  rw [K.A₀, K.base, K.outer] at B
  rw [K.base, K.outer, henv] at R
  rw [henv] at FG
  rw [K.A, henv]
  have hk : (scopeN 33).kind = .function := by kernel_rfl
  have hlo : (envOf nmDec (scopeN 33) L1 202 (.ref 201)).kindOf (Str.ofString "error") = some .local := loc_kind (by kernel_rfl)
  refine caught_STB (T' := "ValueError") (g₀ := C1.h₀) R FG B U XB TB D KtsTurn.refl X.kts F.b_ValueError Boot.«ValueError» (by decide +kernel) PySem.F.isExc_ValueError PySem.F.notTuple_ValueError ?_ hk hlo (kind_of (by kernel_rfl)) (by decide)
  intro h' g' news₂ tk T F' N₂ hG N' B' X' P' D'
  have hE : ErrAt h' e t (.str ⟨msg.toArray⟩ tok) := by
    obtain ⟨oe, ot, ws, nt, m1, m2, hc, hd, h0, htc, htd⟩ := hG
    exact ⟨⟨oe, ws, (N₂ _ m1).1, hc, hd, h0⟩, ⟨ot, nt, (N₂ _ m2).1, htc, htd⟩, err_cls (X'.keeps F'.keep) X.err⟩
  refine wpAny_execs_cons (wpAny_Return_some (wpAny_Call_ofName (name_B (v := .type "str") F' X' (topRead_of P') F.b_str (by kernel_rfl) (by decide +kernel) ?_ hk (kind_of (by kernel_rfl)) (by decide))))
  refine callWith_of (P := fun _ => True) (by rfl) (fun h _ => ⟨.machine, .inr (.inl rfl), Looks.of_pure rfl⟩) ?_
  rw [starEach_of (by rfl)]
  refine evalArgs_plain (spliced_cons (wpAny_Name (wpAny_loadName_local hk (by kernel_rfl) F'.ns (show _ = some (Value.ref e) from if_pos rfl) (spliced_nil ⟨trivial, ?_⟩)) (by decide)))
  refine str_of_err ?_ hE ?_
  · show C.A.units + 3 + 2 < cLine
    omega
  · refine wpAny_nameGoes hlo F'.ns (by rfl) fun h5 m5 hn5 hsb => ?_
    have hs5 : ∀ b o, g'.get? b = some o → h5.get? b = some o := fun b o q => (hsb.2 b (fun z => by
      rw [z] at q
      exact absurd (Nat.lt_of_lt_of_le (Heap.lt_size q) F'.above) (Nat.lt_irrefl _))).trans (F'.keep b o q)
    have := hQ h5 (tk + 1) tok g' m5 news T ⟨hn5, hs5, F'.above⟩ (fun p hp => ⟨(hsb.2 p.1 (N' p hp).2.1).trans (N' p hp).1, (N' p hp).2⟩) hv
    rw [hs, K.s₀]
    exact this
noncomputable def tryB : List Stmt := match bodyN 33 with | .Try b _ _ _ _ :: _ => b | _ => []
theorem dec_body {C C' : Cx} (K : Called C C' nmDec (scopeN 33) 202 (.ref 201)) (F : KF C.K) (X : KX C.K) (hr : C'.A.depth + 2 < recursionLimit) {E' : Value → Shared → Prop} (O2 : (C'.withE E').Ok) {sv av : PV} {row alt : List UInt8} {strict : Bool} {H : PH}
    (hs : Asc sv row) (ha : Asc av alt) (halt : alt.length = 2) (herr : ∀ H' e msg s, Ext H H' → decF strict row alt = .error msg → Thrown C' H' e msg s → E' (.ref e) s) :
    Exs (C'.withE E') tryB [some sv, some av, some (.bool strict), none, none, none, none, none, none, none] H (fun f m' H' => f = .next ∧ Ext H H' ∧ ∃ ns, decF strict row alt = .ok ns ∧ m' = [some sv, some av, some (.bool strict), some (.bytes (bts ns)), none, none, none, none, none, none]) := by
  have n0 : C'.env.scope.names[0]? = some (Str.ofString "signs", NameKind.local) := by rw [K.scope]; rfl
  have w0 : Slot' C' (Str.ofString "signs") 0 := .inl n0
  have n1 : C'.env.scope.names[1]? = some (Str.ofString "marks", NameKind.local) := by rw [K.scope]; rfl
  have w1 : Slot' C' (Str.ofString "marks") 1 := .inl n1
  have n2 : C'.env.scope.names[2]? = some (Str.ofString "strict", NameKind.local) := by rw [K.scope]; rfl
  have w2 : Slot' C' (Str.ofString "strict") 2 := .inl n2
  have n3 : C'.env.scope.names[3]? = some (Str.ofString "got", NameKind.local) := by rw [K.scope]; rfl
  have w3 : Slot' C' (Str.ofString "got") 3 := .inl n3
  have n4 : C'.env.scope.names[4]? = some (Str.ofString "error", NameKind.local) := by rw [K.scope]; rfl
  have w4 : Slot' C' (Str.ofString "error") 4 := .inl n4
  have g5 : C'.env.kindOf (Str.ofString "b64decode") = some .globalImplicit := kind_is K.scope (by kernel_rfl)
  have g6 : C'.env.kindOf (Str.ofString "ValueError") = some .globalImplicit := kind_is K.scope (by kernel_rfl)
  have g7 : C'.env.kindOf (Str.ofString "str") = some .globalImplicit := kind_is K.scope (by kernel_rfl)
  have g8 : C'.env.kindOf (Str.ofString "type") = some .globalImplicit := kind_is K.scope (by kernel_rfl)
  have g9 : C'.env.kindOf (Str.ofString "bytes") = some .globalImplicit := kind_is K.scope (by kernel_rfl)
  have O' := K.ok
  have F' := K.kf F
  have hin := inter_of O'
  have b5 := is_F O' g5 F'.f25 (by decide)
  have q5 := kp_K O' F'.f25.keep
  have b7 := is_str O' F' g7
  have b8 := is_type O' F' g8
  have b9 := is_bytes O' F' g9
  have X' : KX C'.K := by
    have := K.g
    show KX C'.g.K
    rw [this]
    exact X
  have m0 : (C'.withE E').env.scope.names[0]? = some (Str.ofString "signs", NameKind.local) := n0
  have m1 : (C'.withE E').env.scope.names[1]? = some (Str.ofString "marks", NameKind.local) := n1
  have m2 : (C'.withE E').env.scope.names[2]? = some (Str.ofString "strict", NameKind.local) := n2
  have u3 : Slot' (C'.withE E') (Str.ofString "got") 3 := w3
  have h5 : (C'.withE E').env.kindOf (Str.ofString "b64decode") = some .globalImplicit := g5
  have F2 : KF (C'.withE E').K := F'
  have X2 : KX (C'.withE E').K := X'
  have c5 : NmIs (C'.withE E') (Str.ofString "b64decode") (.ref 157) := is_F O2 h5 F2.f25 (by decide)
  have d5 : Kp (C'.withE E') (.ref 157) := kp_K O2 F2.f25.keep
  have herr2 : ∀ msg, decF strict row alt = .error msg → ∀ H', Ext H H' → ∀ e s, Thrown (C'.withE E') H' e msg s → (C'.withE E').E (.ref e) s := fun msg he H' hE e s ht => herr H' e msg s hE he ht
  refine exs_cons ?_
  repeat walk_at "v1"
  cases strict with
  | true =>
    repeat walk_at "v1"
    refine spec_decode O2 F2 X2 hr (args := [sv, av, .bool true]) (strict := true) hs ha halt (.inl rfl) (fun ns he _ H' hE => ?_) herr2
    repeat walk_at "v1"
    exact ⟨rfl, hE, ns, he, rfl⟩
  | false =>
    repeat walk_at "v1"
    refine spec_decode O2 F2 X2 hr (args := [sv, av]) (strict := false) hs ha halt (.inr ⟨rfl, rfl⟩) (fun ns he _ H' hE => ?_) herr2
    repeat walk_at "v1"
    exact ⟨rfl, hE, ns, he, rfl⟩
theorem dec_ret {C C' : Cx} (K : Called C C' nmDec (scopeN 33) 202 (.ref 201)) (F : KF C.K) {a b c : Option PV} {bs : List UInt8} {H : PH} :
    Exs C' ((bodyN 33).drop 1) [a, b, c, some (.bytes bs), none, none, none, none, none, none] H (fun f m' H' => f = .ret (.bytes bs) ∧ H' = H) := by
  have n0 : C'.env.scope.names[0]? = some (Str.ofString "signs", NameKind.local) := by rw [K.scope]; rfl
  have w0 : Slot' C' (Str.ofString "signs") 0 := .inl n0
  have n1 : C'.env.scope.names[1]? = some (Str.ofString "marks", NameKind.local) := by rw [K.scope]; rfl
  have w1 : Slot' C' (Str.ofString "marks") 1 := .inl n1
  have n2 : C'.env.scope.names[2]? = some (Str.ofString "strict", NameKind.local) := by rw [K.scope]; rfl
  have w2 : Slot' C' (Str.ofString "strict") 2 := .inl n2
  have n3 : C'.env.scope.names[3]? = some (Str.ofString "got", NameKind.local) := by rw [K.scope]; rfl
  have w3 : Slot' C' (Str.ofString "got") 3 := .inl n3
  have n4 : C'.env.scope.names[4]? = some (Str.ofString "error", NameKind.local) := by rw [K.scope]; rfl
  have w4 : Slot' C' (Str.ofString "error") 4 := .inl n4
  have g5 : C'.env.kindOf (Str.ofString "b64decode") = some .globalImplicit := kind_is K.scope (by kernel_rfl)
  have g6 : C'.env.kindOf (Str.ofString "ValueError") = some .globalImplicit := kind_is K.scope (by kernel_rfl)
  have g7 : C'.env.kindOf (Str.ofString "str") = some .globalImplicit := kind_is K.scope (by kernel_rfl)
  have g8 : C'.env.kindOf (Str.ofString "type") = some .globalImplicit := kind_is K.scope (by kernel_rfl)
  have g9 : C'.env.kindOf (Str.ofString "bytes") = some .globalImplicit := kind_is K.scope (by kernel_rfl)
  have O' := K.ok
  have F' := K.kf F
  have hin := inter_of O'
  have b5 := is_F O' g5 F'.f25 (by decide)
  have q5 := kp_K O' F'.f25.keep
  have b7 := is_str O' F' g7
  have b8 := is_type O' F' g8
  have b9 := is_bytes O' F' g9
  show Exs C' (_ :: _) _ _ _
  refine exs_cons ?_
  repeat walk_at "v1"
  refine ite_bT (by decide) ?_
  repeat walk_at "v1"
  exact ⟨rfl, rfl⟩
noncomputable def hat (H : PH) (news : List (Addr × Obj)) : PH := fun a => match H a with
  | some po => some po
  | none => (news.find? fun p => p.1 == a).map fun p => .raw p.2
theorem hat_some {H : PH} {news : List (Addr × Obj)} {a : Addr} {po : PO} (h : H a = some po) : hat H news a = some po := by unfold hat; rw [h]
theorem hat_raw {H : PH} {news : List (Addr × Obj)} {h₀ h : Heap} {L : Addr} (N : News h₀ L h news) {p : Addr × Obj} (hp : p ∈ news) (hn : H p.1 = none) : hat H news p.1 = some (.raw p.2) := by
  unfold hat
  rw [hn]
  dsimp only
  cases hf : news.find? fun q => q.1 == p.1 with
  | none =>
    have := List.find?_eq_none.mp hf p hp
    simp at this
  | some q =>
    have h1 := List.find?_some hf
    have h2 := List.mem_of_find?_eq_some hf
    have e : q.1 = p.1 := by simpa using h1
    have e1 := (N q h2).1
    have e2 := (N p hp).1
    rw [e, e2] at e1
    have e3 := Option.some.inj e1
    show some (PO.raw q.2) = some (.raw p.2)
    rw [e3]
theorem hat_view {H : PH} {news : List (Addr × Obj)} (hv : ∀ a po, H a = some po → ∃ o, (a, o) ∈ news ∧ po.Rep o) {a : Addr} {po : PO} (h : hat H news a = some po) : ∃ o, (a, o) ∈ news ∧ po.Rep o := by
  unfold hat at h
  cases hH : H a with
  | some po' =>
    rw [hH] at h
    cases h
    exact hv a po hH
  | none =>
    rw [hH] at h
    dsimp only at h
    cases hf : news.find? fun q => q.1 == a with
    | none => rw [hf] at h; cases h
    | some q =>
      rw [hf] at h
      cases h
      have h1 := List.find?_some hf
      have e : q.1 = a := by simpa using h1
      refine ⟨q.2, ?_, rfl⟩
      rw [← e]
      exact List.mem_of_find?_eq_some hf
/-- what the caller gets back -/
noncomputable def backH (H H' : PH) : PH := fun a => if a = 64 then H' 64 else H a
theorem back_sim {C : Cx} {R : List (Addr × Obj)} {m : Loc} {H H' : PH} {s s' : Shared} {mr : Str → Option Value} {news news' : List (Addr × Obj)} (S : SimW C R m H s mr news) (h64 : ∃ po, H 64 = some po) (hE : Ext (hat H news) H')
    (hst : ∃ h t, s' = { C.s₀ with heap := h, toks := t }) (F : Fr C.h₀ C.env.locals s'.heap mr) (N : News C.h₀ C.env.locals s'.heap news') (hv : ∀ a po, H' a = some po → ∃ o, (a, o) ∈ news' ∧ po.Rep o) : Sim C R m (backH H H') s' := by
  obtain ⟨po64, h64⟩ := h64
  have hin : ∀ p ∈ news, H p.1 = none → p ∈ news' := fun p hp hn => by
    have hne : p.1 ≠ 64 := fun e => by rw [e, h64] at hn; cases hn
    obtain ⟨o, h1, h2⟩ := hv _ _ (hE.1 _ _ hne (hat_raw S.nw hp hn))
    have h2' : o = p.2 := h2
    rw [h2'] at h1
    exact h1
  have hnone : ∀ a, H a = none → backH H H' a = none := fun a ha => by
    unfold backH
    rw [if_neg (fun e => by rw [e, h64] at ha; cases ha)]
    exact ha
  refine ⟨mr, news', hst, F, N, fun p hp => ⟨hin p (S.rest p hp).1 (S.rest p hp).2, hnone _ (S.rest p hp).2⟩, S.loc, fun i x k v hi hk hm => ?_, fun x c hc => ?_, fun a po ha => ?_⟩
  · obtain ⟨c, o, w, e1, e2, e3, e4⟩ := S.cel _ _ _ _ hi hk hm
    exact ⟨c, o, w, e1, hin _ e2 (S.celS _ _ e1).1, e3, e4⟩
  · obtain ⟨e1, e2, o, w, e3, e4⟩ := S.celS _ _ hc
    exact ⟨hnone _ e1, e2, o, w, hin _ e3 e1, e4⟩
  · unfold backH at ha
    split at ha
    · rename_i e
      subst e
      exact hv _ _ ha
    · rename_i e
      exact hv _ _ (hE.1 _ _ e (hat_some ha))
theorem ext_back {H H' : PH} {news : List (Addr × Obj)} (h64 : TabOk H) (hE : Ext (hat H news) H') : Ext H (backH H H') := by
  obtain ⟨ps, h1, h2⟩ := h64
  refine ⟨fun a po ha h => ?_, fun _ => ?_, fun h => ?_⟩
  · unfold backH
    rw [if_neg ha]
    exact h
  · obtain ⟨ps', h3, h4⟩ := hE.2.1 ⟨ps, hat_some h1, h2⟩
    exact ⟨ps', by unfold backH; rw [if_pos rfl]; exact h3, h4⟩
  · have h' : H' 64 = none := by
      unfold backH at h
      rw [if_pos rfl] at h
      exact h
    have := hE.2.2 h'
    rw [hat_some h1] at this
    cases this
noncomputable def decV (strict : Bool) (row alt : List UInt8) : PV := match decF strict row alt with | .ok ns => .bytes (bts ns) | .error msg => .str msg
theorem spec_decoded {C : Cx} {m : Loc} {H : PH} {Q : PV → PH → Prop} (O : C.Ok) (F : KF C.K) (X : KX C.K) (hr : C.A.depth + 4 < recursionLimit) {mean : ExcName → Option Value} (XB : C.K.In C.base) (TB : Top C.g.p C.g.loose mean C.g.mg C.g.mb C.base) (hout : C.outer = []) (hu : C.A.units + 10 < cLine)
    {sv av : PV} {row alt : List UInt8} {strict : Bool} (hs : Asc sv row) (ha : Asc av alt) (halt : alt.length = 2) (h64 : TabOk H) (h : ∀ H', Ext H H' → Q (decV strict row alt) H') :
    Ca C m (.ref 202) [sv, av, .bool strict] [] H Q := by
  intro f' vs ks hf hvs hks R s Q' S hQ
  cases abs_ref hf
  obtain ⟨v1, v2, v3, rfl, h1, h2, h3⟩ := args3 hvs
  cases kws0 hks
  obtain ⟨mr, news, S⟩ := S
  have hKs : C.K.In s.heap := O.kin.keeps S.fr.keep
  have hfr : C.A.frames = some (C.env :: C.outer) := by rw [O.hA]; exact Around.frames_deeper O.below.stack
  obtain ⟨FG, BG, st, _⟩ := groundX (R := fun _ _ => True) O.below S.fr S.nw hfr O.frame O.kind
  have hL0 : s.heap.get? C.env.locals ≠ none := by
    obtain ⟨o, es, ep, e, _⟩ := S.fr.ns
    rw [e]; exact fun q => nomatch q
  let binds : List (Str × Value) := [(Str.ofString "signs", v1), (Str.ofString "marks", v2), (Str.ofString "strict", v3)]
  refine wpAny_call (codeAny_call_def (fd := fnOf nmDec nmDec (argsN 33) (bodyN 33) (scopeN 33) .none .none .none (pmOf C.K 202) none (.ref 201) .none) (body := bodyN 33) (binds := binds) (by omega) (hKs _ _ F.f33.at_) rfl (O.top.nolimit.keeps S.fr.keep)
    (codeRec_of hKs F.f33.code) rfl (BindsTo.of_eq (by kernel_rfl)) (show ∀ x ∈ (scopeN 33).names, x.2 ≠ NameKind.cell from by decide +kernel) (fun y hy => ?_) (fun h₁ hns hk₁ => ?_) (by kernel_rfl) (by kernel_rfl) (by kernel_rfl))
  · have hy' : y = (Str.ofString "signs", v1) ∨ y = (Str.ofString "marks", v2) ∨ y = (Str.ofString "strict", v3) := by simpa [binds] using hy
    rcases hy' with rfl | rfl | rfl <;> kernel_rfl
  · have F1 : Fr (hideAll s.heap (news.map (·.1))) s.heap.objs.size h₁ (fun x => binds.reverse.lookup x) := ⟨hns, fun b o e => hk₁ b o (of_hideAll _ e), Nat.le_of_eq (hideAll_size _ _)⟩
    have N1 : News (hideAll s.heap (news.map (·.1))) s.heap.objs.size h₁ news := fun p hp => ⟨hk₁ _ _ (S.nw p hp).1, Nat.ne_of_lt (Heap.lt_size (S.nw p hp).1), hideAll_none _ (List.mem_map_of_mem hp)⟩
    generalize hL1 : s.heap.objs.size = L1 at *
    generalize hg : hideAll s.heap (news.map (·.1)) = g at *
    let env1 : Env := envOf nmDec (scopeN 33) L1 202 (.ref 201)
    let C1 : Cx := { g := C.g, A := C.A.deeper env1, env := env1, E := fun e s' => wpAny (model C.prog C.w) (C.A.deeper env1) (leaving env1 e) (fun _ s'' => C.E e s'') (fun e' s'' => C.E e' s'') s', h₀ := g, s₀ := C.s₀, A₀ := C.A, base := C.base, outer := C.env :: C.outer }
    have hnodup : ((scopeN 33).names.map (·.1)).Nodup := by decide +kernel
    have hplain : ∀ y ∈ (scopeN 33).names, y.2 ≠ NameKind.cell ∧ y.2 ≠ NameKind.free := by decide +kernel
    have O1 : C1.Ok := ⟨by kernel_rfl, rfl, rfl, rfl, O.hand, O.kin.keeps st, O.top.keeps st, PassesOwn.leaving, (fun x y c hx _ => nomatch (show none = some c from hx)), hnodup, rfl, BG, let ⟨bm, ob, b1, b2, b3, b4⟩ := O.bm; ⟨bm, ob, b1, b2, st _ _ b3, b4⟩⟩
    have K1 : Called C C1 nmDec (scopeN 33) 202 (.ref 201) := ⟨O1, rfl, rfl, rfl, ⟨L1, by kernel_rfl⟩, fun x hx => by
      exact absurd rfl (hplain _ (lookup_isSome hx)).1, rfl, rfl, rfl, rfl, ⟨_, FG⟩, rfl⟩
    have D1 : KtsDicts ((C.env :: C.outer).filterMap (·.frame)) C1.h₀ := fun b hb => by
      obtain ⟨env, he, hfb⟩ := List.mem_filterMap.mp hb
      rw [hout] at he
      rcases List.mem_cons.mp he with rfl | he
      · rw [O.frame] at hfb
        cases hfb
        obtain ⟨o, es, ep, e1, e2, _⟩ := FG.ns
        exact ⟨o, es, ep, e1, e2⟩
      · cases he
    have hfin : ∀ (g' : Heap) (L' : Addr) (mr' : Str → Option Value) (news' : List (Addr × Obj)) (H' : PH) (s' : Shared), KtsTurn ((C.env :: C.outer).filterMap (·.frame)) g g' → (∃ h t, s' = { C.s₀ with heap := h, toks := t }) → Fr g' L' s'.heap mr' → News g' L' s'.heap news' → Ext (hat H news) H' →
        (∀ a po, H' a = some po → ∃ o, (a, o) ∈ news' ∧ po.Rep o) → Sim C R m (backH H H') s' := fun g' L' mr' news' H' s' T hst F' N' hE hv => by
      obtain ⟨ps, hps, _⟩ := h64
      have hnL : C.h₀.get? C.env.locals = none := kts_self S.fr
      have hmem : ∀ b, b ∈ (C.env :: C.outer).filterMap (·.frame) → b = C.env.locals := fun b hb => by
        obtain ⟨env, he, hfb⟩ := List.mem_filterMap.mp hb
        rw [hout] at he
        rcases List.mem_cons.mp he with rfl | he
        · rw [O.frame] at hfb; exact (Option.some.inj hfb).symm
        · cases he
      obtain ⟨oL, es, ep, hL, hLd, hLk, hLf⟩ := FG.ns
      obtain ⟨sl, hsl⟩ := T.up hL
      have hsl' := F'.keep _ _ hsl
      have keep' : ∀ b o, C.h₀.get? b = some o → g'.get? b = some o := fun b o e => T.other b o (st b o e) fun hm => by
        rw [hmem b hm, hnL] at e
        cases e
      refine back_sim S ⟨_, hps⟩ hE hst ⟨⟨_, es, ep, hsl', hLd, hLk, hLf⟩, fun b o e => F'.keep b o (keep' b o e), S.fr.above⟩ (fun p hp => ⟨(N' p hp).1, fun e => ?_, ?_⟩) hv
      · have := (N' p hp).2.2
        rw [e, hsl] at this
        cases this
      · cases q : C.h₀.get? p.1 with
        | none => rfl
        | some o =>
          have := (N' p hp).2.2
          rw [keep' _ _ q] at this
          cases this
    have hm0 : ([some sv, some av, some (.bool strict), none, none, none, none, none, none, none] : Loc) = initLoc (scopeN 33).names (binds.map fun p => (p.1, abs p.2)).reverse := by
      show _ = initLoc (scopeN 33).names [(Str.ofString "signs", abs v1), (Str.ofString "marks", abs v2), (Str.ofString "strict", abs v3)].reverse
      rw [h1, h2, h3]
      kernel_rfl
    have S1 : Sim C1 [] [some sv, some av, some (.bool strict), none, none, none, none, none, none, none] (hat H news) { s with heap := h₁, toks := s.toks + binds.length } := by
      refine ⟨_, news, ?_, F1, N1, (fun p hp => nomatch hp), fun i x v hi hm => ?_, fun i x k v hi hk' hm => ?_, fun x c hc => ?_, fun a po ha => hat_view S.view ha⟩
      · obtain ⟨hh, tt, rfl⟩ := S.st
        exact ⟨h₁, _, rfl⟩
      · have hi' : (scopeN 33).names[i]? = some (x, NameKind.local) := hi
        rw [hm0] at hm
        have e : (initLoc (scopeN 33).names (binds.map fun p => (p.1, abs p.2)).reverse)[i]? = some ((binds.map fun p => (p.1, abs p.2)).reverse.lookup x) := by simp [initLoc, hi']
        rw [hm] at e
        cases e' : (binds.map fun p => (p.1, abs p.2)).reverse.lookup x with
        | none => rw [e'] at e; cases e
        | some u =>
          rw [e'] at e
          cases e
          rw [← List.map_reverse, lookup_map] at e'
          cases e2 : binds.reverse.lookup x with
          | none => rw [e2] at e'; cases e'
          | some w =>
            rw [e2] at e'
            exact ⟨w, rfl, by simpa using e'⟩
      · have hi' : (scopeN 33).names[i]? = some (x, k) := hi
        have := hplain _ (List.mem_of_getElem? hi')
        rcases hk' with rfl | rfl
        · exact absurd rfl this.1
        · exact absurd rfl this.2
      · exact nomatch (show none = some c from hc)
    show wpAny _ _ (execs (_ :: _) env1) _ _ _
    refine wpAny_execs_cons (wpAny_Try_except ?_)
    have hr1 : C1.A.depth + 2 < recursionLimit := by
      show C.A.depth + 1 + 2 < recursionLimit
      omega
    refine dec_body K1 F X hr1 (O1.withE PassesOwn.looking) hs ha halt (fun H' e msg s' hE he ht => ?_) [] _ _ S1.withE (fun f m' H' s' S' q => ?_)
    · refine caught_str K1 rfl F X XB TB D1 hu ht (fun h5 tk tok g' mr5 news5 T F5 N5 hv5 => ?_)
      show Q' _ _
      refine hQ _ _ _ (hfin g' _ mr5 news5 H' _ T ⟨h5, tk, rfl⟩ F5 N5 hE hv5) ?_
      have hd : decV strict row alt = .str msg := by unfold decV; rw [he]
      have := h _ (ext_back h64 hE)
      rw [hd] at this
      exact this
    · obtain ⟨hf, hE, ns, he, rfl⟩ := q
      have hf' := absF_next hf
      subst hf'
      dsimp only
      refine wpAny_execs_nil ?_
      dsimp only
      refine dec_ret K1 F [] s' _ S'.ofE (fun f2 m2 H2 s2 S2 q2 => ?_)
      obtain ⟨q3, rfl⟩ := q2
      have hd : decV strict row alt = .bytes (bts ns) := by unfold decV; rw [he]
      have hh := h _ (ext_back h64 hE)
      rw [hd] at hh
      cases f2 with
      | ret v =>
        have hv : abs v = .bytes (bts ns) := by
          have : FL.ret (abs v) = FL.ret (.bytes (bts ns)) := q3
          exact FL.ret.inj this
        obtain ⟨mr2, news2, S2⟩ := S2
        show Q' v s2
        exact hQ _ _ _ (hfin g _ mr2 news2 _ s2 KtsTurn.refl S2.st S2.fr S2.nw hE S2.view) (by rw [hv]; exact hh)
      | next => exact FL.noConfusion q3
      | brk => exact FL.noConfusion q3
      | cont => exact FL.noConfusion q3
/-! the law's facts on a writing -/
theorem u8_len (l : List Nat) : (u8 l).length = l.length := by unfold u8; simp
theorem wr_len (m1 m2 : Nat) (l : List Nat) : (wr m1 m2 l).length = l.length := by unfold wr; simp
theorem wr_app (m1 m2 : Nat) (a b : List Nat) : wr m1 m2 (a ++ b) = wr m1 m2 a ++ wr m1 m2 b := by unfold wr; simp
section
variable {m1 m2 : Nat} (h1 : m1 ∈ marksL) (h2 : m2 ∈ marksL) (h12 : m1 ≠ m2)
include h1 h2 h12
theorem dec_bare {fs : List Nat} (hf : ∀ f ∈ fs, f < 64) : decV false (u8 (wr m1 m2 fs)) (u8 [m1, m2]) = dueF fs false := by
  unfold decV decF
  rw [dec_tr h1 h2 h12 hf, a2F_bare (figs_b64 hf)]
  unfold dueF
  by_cases e1 : fs.length % 4 = 1
  · rw [if_pos e1, if_pos e1]
  · rw [if_neg e1, if_neg e1]
    by_cases e2 : fs.length % 4 ≠ 0
    · rw [if_pos e2, if_pos ⟨e2, rfl⟩]
    · rw [if_neg e2, if_neg (fun q => e2 q.1)]
      show PV.bytes (bts _) = _
      rw [bts_nat]
      rfl
theorem dec_full {fs : List Nat} (hf : ∀ f ∈ fs, f < 64) {p : Nat} (hp : p = padN fs) : decV false (u8 (wr m1 m2 fs ++ List.replicate p 61)) (u8 [m1, m2]) = dueF fs true := by
  unfold decV decF
  rw [u8_app, u8_rep, trB_app, dec_tr h1 h2 h12 hf]
  have e : trB (mkTable (u8 [m1, m2]) [43, 47]) (List.replicate p (Nat.toUInt8 61)) = List.replicate p 61 := dec_rep h1 h2 h12 p
  rw [e, a2F_full (figs_b64 hf) hp]
  unfold dueF
  by_cases e1 : fs.length % 4 = 1
  · rw [if_pos e1, if_pos e1]
  · rw [if_neg e1, if_neg e1, if_neg (fun q => nomatch q.2)]
    show PV.bytes (bts _) = _
    rw [bts_nat]
    rfl
theorem oct_row (row : List UInt8) : u8 (octF (figF row)) = row := by
  rw [octF_figF]
  unfold u8
  rw [List.map_map]
  conv => rhs; rw [← List.map_id row]
  refine List.map_congr_left fun b _ => ?_
  show b.toNat.toUInt8 = b
  simp
theorem figN_ne (row : List UInt8) : (figF row).length % 4 ≠ 1 := by rw [figF_len]; omega
theorem dec_strict (row : List UInt8) : decV true (u8 (wr m1 m2 (figF row) ++ List.replicate (padN (figF row)) 61)) (u8 [m1, m2]) = .bytes row := by
  unfold decV decF
  rw [u8_app, u8_rep, trB_app, dec_tr h1 h2 h12 (figF_lt row)]
  have e : trB (mkTable (u8 [m1, m2]) [43, 47]) (List.replicate (padN (figF row)) (Nat.toUInt8 61)) = List.replicate (padN (figF row)) 61 := dec_rep h1 h2 h12 _
  rw [e, a2F_strict (figs_b64 (figF_lt row)) (p := padN (figF row)) rfl (figN_ne h1 h2 h12 row)]
  show PV.bytes (bts _) = _
  rw [bts_nat, oct_row h1 h2 h12]
/-- with a blank behind the first sign -/
theorem blank_tr {f : Nat} {fs : List Nat} (hf : ∀ x ∈ f :: fs, x < 64) (p : Nat) : trB (mkTable (u8 [m1, m2]) [43, 47]) (u8 ([chF m1 m2 f] ++ [32] ++ (wr m1 m2 fs ++ List.replicate p 61))) = ([f].map fun v => b64abc.getD v 0) ++ 32 :: ((fs.map fun v => b64abc.getD v 0) ++ List.replicate p 61) := by
  rw [u8_app, u8_app, u8_app, u8_rep, trB_app, trB_app, trB_app]
  have e0 : trB (mkTable (u8 [m1, m2]) [43, 47]) (u8 [chF m1 m2 f]) = [f].map fun v => b64abc.getD v 0 := dec_tr h1 h2 h12 (fs := [f]) (fun x hx => hf x (by simp at hx; simp [hx]))
  have e1 : trB (mkTable (u8 [m1, m2]) [43, 47]) (u8 [32]) = [32] := dec_blank h1 h2 h12
  have e2 : trB (mkTable (u8 [m1, m2]) [43, 47]) (List.replicate p (Nat.toUInt8 61)) = List.replicate p 61 := dec_rep h1 h2 h12 p
  rw [e0, e1, e2, dec_tr h1 h2 h12 (fun x hx => hf x (.tail _ hx))]
  simp
theorem dec_blankL {f : Nat} {fs : List Nat} {row : List UInt8} (hrow : figF row = f :: fs) : decV false (u8 ([chF m1 m2 f] ++ [32] ++ (wr m1 m2 fs ++ List.replicate (padN (figF row)) 61))) (u8 [m1, m2]) = .bytes row := by
  have hf := figF_lt row
  have hfull := dec_full h1 h2 h12 hf (p := padN (figF row)) rfl
  unfold decV decF at hfull ⊢
  rw [u8_app, u8_rep, trB_app, dec_tr h1 h2 h12 hf] at hfull
  have e : trB (mkTable (u8 [m1, m2]) [43, 47]) (List.replicate (padN (figF row)) (Nat.toUInt8 61)) = List.replicate (padN (figF row)) 61 := dec_rep h1 h2 h12 _
  rw [e] at hfull
  rw [blank_tr h1 h2 h12 (hrow ▸ hf), a2F_loose (figs_b64 (fs := [f]) (fun x hx => hf x (by rw [hrow]; simp at hx; simp [hx])))]
  have e3 : ([f].map fun v => b64abc.getD v 0) ++ ((fs.map fun v => b64abc.getD v 0) ++ List.replicate (padN (figF row)) 61) = ((figF row).map fun v => b64abc.getD v 0) ++ List.replicate (padN (figF row)) 61 := by
    conv => rhs; rw [hrow]
    rw [hrow]
    simp
  rw [e3, hfull]
  unfold dueF
  rw [if_neg (figN_ne h1 h2 h12 row), if_neg (fun q => nomatch q.2)]
  show PV.bytes (u8 _) = _
  rw [oct_row h1 h2 h12]
theorem dec_blankS {f : Nat} {fs : List Nat} {row : List UInt8} (hrow : figF row = f :: fs) (p : Nat) : ∃ msg, decV true (u8 ([chF m1 m2 f] ++ [32] ++ (wr m1 m2 fs ++ List.replicate p 61))) (u8 [m1, m2]) = .str msg := by
  have hf := figF_lt row
  unfold decV decF
  rw [blank_tr h1 h2 h12 (hrow ▸ hf)]
  obtain ⟨m, e⟩ := a2F_blank (figs_b64 (fs := [f]) (fun x hx => hf x (by rw [hrow]; simp at hx; simp [hx]))) ((fs.map fun v => b64abc.getD v 0) ++ List.replicate p 61)
  rw [e]
  exact ⟨m, rfl⟩
theorem alph_wr {fs : List Nat} (hf : ∀ f ∈ fs, f < 64) (p : Nat) : Alph m1 m2 (wr m1 m2 fs ++ List.replicate p 61) := by
  intro c hc
  rcases List.mem_append.mp hc with h | h
  · obtain ⟨v, hv, rfl⟩ := List.mem_map.mp h
    rcases fig_cases (hf v hv) with q | rfl | rfl
    · rw [chF_lt q]; exact .inl (abc_base v q)
    · exact .inr (.inl rfl)
    · exact .inr (.inr rfl)
  · rw [List.eq_of_mem_replicate h]
    exact .inl (by decide)
end
/-- the place of the star in the alphabet -/
noncomputable def starI (m1 m2 : Nat) : Int := if m1 = 42 then 62 else if m2 = 42 then 63 else -1
noncomputable def singB (star : Int) : Bool → List Nat → List Nat
  | _, [] => []
  | b, f :: r => if (f : Int) = star then (if b = true then singB star true r else f :: singB star true r) else f :: singB star false r
theorem chF_star {m1 m2 v : Nat} (h12 : m1 ≠ m2) (hv : v < 64) : chF m1 m2 v = 42 ↔ (v : Int) = starI m1 m2 := by
  unfold starI
  have abc42 : ∀ v < 62, abc62.getD v 0 ≠ 42 := by decide +kernel
  rcases fig_cases hv with h | rfl | rfl
  · rw [chF_lt h]
    refine ⟨fun e => absurd e (abc42 v h), fun e => ?_⟩
    split at e
    · omega
    · split at e <;> omega
  · rw [chF_62]
    constructor
    · intro e; rw [if_pos e]; rfl
    · intro e
      split at e
      · assumption
      · split at e <;> omega
  · rw [chF_63]
    constructor
    · intro e
      rw [if_neg (fun q => h12 (q.trans e.symm)), if_pos e]; rfl
    · intro e
      split at e
      · omega
      · split at e
        · assumption
        · omega
theorem sq_wr {m1 m2 : Nat} (h12 : m1 ≠ m2) (y : List Nat) (hy : 42 ∉ y) : ∀ (fs : List Nat) (b : Bool), (∀ f ∈ fs, f < 64) → sqB b (wr m1 m2 fs ++ y) = wr m1 m2 (singB (starI m1 m2) b fs) ++ y
  | [], b, _ => by
    have key : ∀ (y : List Nat) (b : Bool), 42 ∉ y → sqB b y = y := by
      intro y
      induction y with
      | nil => intro b _; rfl
      | cons c r ih =>
        intro b h
        have hc : c ≠ 42 := fun e => h (by rw [e]; exact .head _)
        rw [sqB_cons, if_neg hc, ih false (fun e => h (.tail _ e))]
    exact key y b hy
  | f :: r, b, h => by
    have hr := fun b => sq_wr h12 y hy r b fun x hx => h x (.tail _ hx)
    show sqB b (chF m1 m2 f :: (wr m1 m2 r ++ y)) = _
    rw [sqB_cons]
    unfold singB
    by_cases e : chF m1 m2 f = 42
    · rw [if_pos e, if_pos ((chF_star h12 (h f (.head _))).mp e), hr]
      cases b with
      | true => rfl
      | false =>
        have e2 : wr m1 m2 (f :: singB (starI m1 m2) true r) = 42 :: wr m1 m2 (singB (starI m1 m2) true r) := by
          unfold wr
          rw [List.map_cons, e]
        show 42 :: _ = wr m1 m2 (f :: singB (starI m1 m2) true r) ++ y
        rw [e2]
        rfl
    · rw [if_neg e, if_neg (fun q => e ((chF_star h12 (h f (.head _))).mpr q)), hr]
      rfl
theorem singB_mem (star : Int) : ∀ (fs : List Nat) (b : Bool), ∀ f ∈ singB star b fs, f ∈ fs
  | [], _, f, h => h
  | x :: r, b, f, h => by
    unfold singB at h
    split at h
    · split at h
      · exact .tail _ (singB_mem star r true f h)
      · rcases List.mem_cons.mp h with rfl | h
        · exact .head _
        · exact .tail _ (singB_mem star r true f h)
    · rcases List.mem_cons.mp h with rfl | h
      · exact .head _
      · exact .tail _ (singB_mem star r false f h)
theorem singB_len (star : Int) : ∀ (fs : List Nat) (b : Bool), (singB star b fs).length ≤ fs.length ∧ ((singB star b fs).length = fs.length → singB star b fs = fs)
  | [], _ => ⟨Nat.le_refl _, fun _ => rfl⟩
  | x :: r, b => by
    obtain ⟨a1, a2⟩ := singB_len star r true
    obtain ⟨b1, b2⟩ := singB_len star r false
    unfold singB
    split
    · split
      · rw [List.length_cons]
        exact ⟨by omega, fun e => by omega⟩
      · rw [List.length_cons, List.length_cons]
        exact ⟨by omega, fun e => by rw [a2 (by omega)]⟩
    · rw [List.length_cons, List.length_cons]
      exact ⟨by omega, fun e => by rw [b2 (by omega)]⟩
theorem sqB_len : ∀ (l : List Nat) (b : Bool), (sqB b l).length ≤ l.length
  | [], _ => Nat.le_refl _
  | c :: r, b => by
    rw [sqB_cons]
    have h1 := sqB_len r true
    have h2 := sqB_len r false
    split
    · split <;> simp <;> omega
    · simp; omega
theorem setText_len (stuff : List Nat) : (setText stuff).length ≤ stuff.length + 3 := by
  unfold setText
  split <;> simp
theorem bB_len {ps : List Part} {σ : List Nat} (h : PSrc ps σ) : ∀ st, (bB st ps).length ≤ 8 * σ.length + 1 := by
  induction h with
  | nil => intro st; cases st <;> decide
  | @star ps σ hs ih =>
    have g := ih .group
    have l := ih .last
    have key : (if anyS ps = true then [40, 63, 62, 46, 42, 63] ++ bB .group ps else [46, 42] ++ bB .last ps).length ≤ 8 * σ.length + 7 := by
      split
      · simp; omega
      · simp; omega
    intro st
    rw [List.length_cons]
    cases st with
    | group =>
      have e : bB .group (.star :: ps) = 41 :: (if anyS ps = true then [40, 63, 62, 46, 42, 63] ++ bB .group ps else [46, 42] ++ bB .last ps) := rfl
      rw [e, List.length_cons]
      omega
    | front =>
      have e : bB .front (.star :: ps) = (if anyS ps = true then [40, 63, 62, 46, 42, 63] ++ bB .group ps else [46, 42] ++ bB .last ps) := rfl
      rw [e]
      omega
    | last =>
      have e : bB .last (.star :: ps) = (if anyS ps = true then [40, 63, 62, 46, 42, 63] ++ bB .group ps else [46, 42] ++ bB .last ps) := rfl
      rw [e]
      omega
    | behind =>
      have e : bB .behind (.star :: ps) = (if anyS ps = true then [40, 63, 62, 46, 42, 63] ++ bB .group ps else [46, 42] ++ bB .last ps) := rfl
      rw [e]
      omega
  | dot hs ih => intro st; rw [bB_txt, List.length_append]; have := ih st; simp; omega
  | plain hc hs ih => intro st; rw [bB_txt, List.length_append]; have := ih st; simp; omega
  | esc h1 h2 h3 hs ih => intro st; rw [bB_txt, List.length_append]; have := ih st; simp; omega
  | op hn hs ih => intro st; rw [bB_txt, List.length_append]; have := ih st; simp; omega
  | @set stuff ps σ hst hs ih =>
    intro st
    rw [bB_txt, List.length_append]
    have := ih st
    have := setText_len stuff
    simp
    omega
theorem body_len {m1 m2 : Nat} {pat : List Nat} (hA : Alph m1 m2 pat) : (bodyOf (trAll pat)).length ≤ 8 * pat.length + 1 := by
  rw [bodyOf_eq, trAll_eq]
  have h1 := bB_len (src_trL pat.length false pat (Nat.le_refl _) hA) .front
  have h2 := sqB_len pat false
  omega
/-- a list in the ground -/
noncomputable def GL (C : Cx) (a : Addr) (xs : List PV) : Prop := ∃ arr : Array Value, C.h₀.IsList a arr ∧ arr.toList.map abs = xs
theorem GL.at {C : Cx} {a : Addr} {xs : List PV} (g : GL C a xs) {R : List (Addr × Obj)} {m : Loc} {H : PH} {s : Shared} (S : Sim C R m H s) : ∃ vs : Array Value, s.heap.IsList a vs ∧ vs.toList.map abs = xs := by
  obtain ⟨arr, ⟨o, h1, h2, n, h3⟩, e⟩ := g
  obtain ⟨mr, news, S⟩ := S
  exact ⟨arr, ⟨o, S.fr.keep _ _ h1, h2, n, h3⟩, e⟩
noncomputable def LAt (C : Cx) (H : PH) (a : Addr) (xs : List PV) : Prop := H a = some (.list xs) ∨ GL C a xs
theorem LAt.at {C : Cx} {H : PH} {a : Addr} {xs : List PV} (g : LAt C H a xs) {R : List (Addr × Obj)} {m : Loc} {s : Shared} (S : Sim C R m H s) : ∃ vs : Array Value, s.heap.IsList a vs ∧ vs.toList.map abs = xs :=
  g.elim (fun h => S.list h) fun h => h.at S
section
variable {C : Cx} {m : Loc} {H : PH} {Q : PV → PH → Prop} {QB : Bool → PH → Prop} {value e : Expr} {lower upper : Option Expr} {pos p : Pos} {a : Addr} {xs : List PV}
theorem tr_listG (hH : LAt C H a xs) (hl : xs.length ≤ 16777216) (h : QB (!xs.isEmpty) H) : Tr C m (.ref a) H QB := by
  intro v hv _ s Q' S hQ
  cases abs_ref hv
  obtain ⟨vs, hL, rfl⟩ := hH.at S
  refine wpAny_truthy_list hL (by simp at hl; omega) (hQ _ _ _ (S.toks _) ?_)
  have e : vs.isEmpty = (vs.toList.map abs).isEmpty := by
    cases vs with | mk l => cases l <;> rfl
  show QB (!vs.isEmpty) H
  rw [e]; exact h
/-- a slice of a list, wherever the list stands -/
theorem ev_sliceG (h : Ev C value m H (fun o H1 => ∃ a xs, o = .ref a ∧ xs.length ≤ 16777216 ∧ Pt C m lower H1 (fun lo H2 => Pt C m upper H2 (fun hi H3 => LAt C H3 a xs ∧ ∀ D, H3 D = none → Q (.ref D) (H3.set D (.list (slc xs lo hi))))))) :
    Ev C (.Subscript value (.Slice lower upper none p) pos) m H Q := by
  intro R s Q' S hQ
  refine Subscript_ (h R s _ S fun o H1 s1 S1 q1 => ?_)
  obtain ⟨a, xs, ho, hl, q1⟩ := q1
  cases abs_ref ho
  refine wpAny_Slice (pt_eval q1 S1 fun v1 lo H2 s2 S2 p1 q2 => pt_eval q2 S2 fun v2 hi H3 s3 S3 p2 q3 => wpAny_pure ?_)
  have hs : ∃ ops, subscripted (.Slice lower upper none p) false (.ref a) (.ref s3.heap.objs.size) = operate ops (getItem (.ref a) (.ref s3.heap.objs.size)) := subscripted_ops _ _ _
  obtain ⟨ops, hs⟩ := hs
  obtain ⟨hH, q⟩ := q3
  have S4 := S3.push { cls := .type "slice", data := .fields #[v1, v2, .none] } s3.toks
  obtain ⟨vs, hL, hx⟩ := hH.at S4
  have hsz : vs.size ≤ sizeLine := by
    rw [← hx] at hl
    simpa [sizeLine] using hl
  refine tail_any hL.typeIs slot_list_getitem.lookup (wpAny_getItem_list_slice hL (Heap.IsSliceOf.new ..) p1 p2 .none (by simp) ?_ hsz) hs
  obtain ⟨hf, S5⟩ := S4.alloc (o := { cls := .type "list", data := .seq (slicePick vs lo hi none) }) (po := .list (slc xs lo hi)) ⟨slicePick vs lo hi none, 0, rfl, by
    rw [slicePick_plain, ← hx, ← slc_map]
    simp [slc]⟩ s3.toks
  exact hQ _ _ _ S5 (q _ hf)
end
theorem slcP_to {x : List PV} (b : Nat) : slc x none (some (b : Int)) = x.take b := by
  unfold slc
  simp only [Option.elim, clipAt_nat, List.drop_zero, Nat.sub_zero]
  rcases Nat.le_total b x.length with h | h
  · rw [Nat.min_eq_left h]
  · rw [Nat.min_eq_right h, List.take_of_length_le (Nat.le_refl _), List.take_of_length_le h]
theorem slcP_from {x : List PV} (a : Nat) : slc x (some (a : Int)) none = x.drop a := by
  unfold slc
  simp only [Option.elim, clipAt_nat]
  rcases Nat.le_total a x.length with h | h
  · rw [Nat.min_eq_left h, List.take_of_length_le (by simp)]
  · rw [Nat.min_eq_right h, List.drop_of_length_le (Nat.le_refl _), List.drop_of_length_le h]; simp
/-- the law's frame -/
structure LawK (C' : Cx) : Prop where
  ok : C'.Ok
  F : KF C'.K
  X : KX C'.K
  scope : C'.env.scope = scopeN 34
  cell : ∀ x, (scopeN 34).names.lookup x = some NameKind.cell → ∃ c, C'.env.cells.lookup x = some c
  env : ∃ L' f cd, C'.env = envOfC (Str.ofString "law") (scopeN 34) L' f cd
  base : C'.K.In C'.base
  top : ∃ mean, Top C'.g.p C'.g.loose mean C'.g.mg C'.g.mb C'.base
  outer : C'.outer = []
  depth : C'.A.depth + 6 < recursionLimit
  units : C'.A.units + 10 < cLine
theorem LawK.kf {C' : Cx} (K : LawK C') (F : KF C'.K) : KF C'.K := F
/-- the single figures, as the law picks them -/
theorem pick_singB (star : Int) (figs : List Nat) : ∀ (d k : Nat), k + d = figs.length →
    ((List.range' k d).filter fun k => decide (k = 0 ∨ ((figs.getD k 0 : Nat) : Int) ≠ star ∨ ((figs.getD (k - 1) 0 : Nat) : Int) ≠ star)).map (fun k => figs.getD k 0) = singB star (decide (0 < k ∧ ((figs.getD (k - 1) 0 : Nat) : Int) = star)) (figs.drop k)
  | 0, k, h => by
    rw [List.drop_of_length_le (by omega)]
    rfl
  | d + 1, k, h => by
    have hk : k < figs.length := by omega
    have hd : figs.drop k = figs.getD k 0 :: figs.drop (k + 1) := by
      rw [List.getD_eq_getElem?_getD, List.getElem?_eq_getElem hk]
      exact List.drop_eq_getElem_cons hk
    have ih := pick_singB star figs d (k + 1) (by omega)
    rw [List.range'_succ, List.filter_cons, hd]
    unfold singB
    rw [Nat.add_sub_cancel] at ih
    by_cases hs : ((figs.getD k 0 : Nat) : Int) = star
    · rw [if_pos hs]
      have e1 : decide (0 < k + 1 ∧ ((figs.getD k 0 : Nat) : Int) = star) = true := decide_eq_true ⟨by omega, hs⟩
      rw [e1] at ih
      by_cases hp : 0 < k ∧ ((figs.getD (k - 1) 0 : Nat) : Int) = star
      · have hn : ¬ (decide (k = 0 ∨ ((figs.getD k 0 : Nat) : Int) ≠ star ∨ ((figs.getD (k - 1) 0 : Nat) : Int) ≠ star) = true) := by
          rw [decide_eq_true_eq]
          exact fun q => q.elim (fun h0 => by omega) fun q => q.elim (fun q => q hs) fun q => q hp.2
        rw [decide_eq_true hp, if_neg hn, if_pos rfl]
        exact ih
      · have hn : decide (k = 0 ∨ ((figs.getD k 0 : Nat) : Int) ≠ star ∨ ((figs.getD (k - 1) 0 : Nat) : Int) ≠ star) = true := decide_eq_true (by
          by_cases h0 : k = 0
          · exact .inl h0
          · exact .inr (.inr fun q => hp ⟨by omega, q⟩))
        rw [decide_eq_false hp, if_pos hn, if_neg (by decide)]
        rw [List.map_cons, ih]
    · rw [if_neg hs, if_pos (decide_eq_true (.inr (.inl hs))), List.map_cons]
      have e1 : decide (0 < k + 1 ∧ ((figs.getD k 0 : Nat) : Int) = star) = false := decide_eq_false fun q => hs q.2
      rw [e1] at ih
      rw [ih]
theorem pick_single (star : Int) (figs : List Nat) : ((List.range figs.length).filter fun k => decide (k = 0 ∨ ((figs.getD k 0 : Nat) : Int) ≠ star ∨ ((figs.getD (k - 1) 0 : Nat) : Int) ≠ star)).map (fun k => figs.getD k 0) = singB star false figs := by
  have := pick_singB star figs figs.length 0 (by omega)
  rw [List.range_eq_range']
  simpa using this
noncomputable def drawnF (n : Int) : Nat := if n.fmod 4 < 2 then (62 + n.fmod 4).toNat else ((n.fdiv 4).fmod 64).toNat
noncomputable def dflt : List Int := [0, 0, 0, 5, 1, 107, 42]
noncomputable def numsF (ns : List Int) : List Int := (if ns = [] then dflt else ns).take 16
noncomputable def fs0F (nums : List Int) : List Nat := [62, (((nums.headD 0).fdiv 8).fmod 64).toNat, 63, 62] ++ (nums.drop 1).map drawnF
noncomputable def rowF (nums : List Int) : List UInt8 := u8 (octF (fs0F nums))
noncomputable def n29 (l : List (Option PV)) : Loc := l ++ List.replicate (29 - l.length) none
theorem ne64 {H : PH} {D : Addr} (h : TabOk H) (hD : H D = none) : D ≠ 64 := fun e => by
  obtain ⟨ps, h1, _⟩ := h
  rw [e, h1] at hD
  cases hD
theorem law_A {C' : Cx} (K : LawK C') {ns : List Int} {la : Addr} {H : PH} {QF : FL → Loc → PH → Prop} (hns : ns.length ≤ 1000) (hla : LAt C' H la (ns.map .int)) (h64 : TabOk H)
    (h : ∀ nb H', H' nb = some (.list ((numsF ns).map .int)) → nb ≠ 64 → TabOk H' →
      Exs C' ((bodyN 34).drop 1) [some (.ref la), some (.ref nb), none, none, none, none, none, none, none, none, none, none, none, none, none, none, none, none, none, none, none, none, none, none, none, none, none, none, none] H' QF) :
    Exs C' (bodyN 34) [some (.ref la), none, none, none, none, none, none, none, none, none, none, none, none, none, none, none, none, none, none, none, none, none, none, none, none, none, none, none, none] H QF := by
  have F := K.F
  have n0 : C'.env.scope.names[0]? = some (Str.ofString "script", NameKind.local) := by rw [K.scope]; rfl
  have w0 : Slot' C' (Str.ofString "script") 0 := .inl n0
  have n1 : C'.env.scope.names[1]? = some (Str.ofString "numbers", NameKind.local) := by rw [K.scope]; rfl
  have w1 : Slot' C' (Str.ofString "numbers") 1 := .inl n1
  have n2 : C'.env.scope.names[2]? = some (Str.ofString "alphabet", NameKind.cell) := by rw [K.scope]; rfl
  have w2 : Slot' C' (Str.ofString "alphabet") 2 := .inr ⟨n2, K.cell _ (by kernel_rfl)⟩
  have n3 : C'.env.scope.names[3]? = some (Str.ofString "marks", NameKind.local) := by rw [K.scope]; rfl
  have w3 : Slot' C' (Str.ofString "marks") 3 := .inl n3
  have n4 : C'.env.scope.names[4]? = some (Str.ofString "drawn", NameKind.local) := by rw [K.scope]; rfl
  have w4 : Slot' C' (Str.ofString "drawn") 4 := .inl n4
  have n5 : C'.env.scope.names[5]? = some (Str.ofString "row", NameKind.local) := by rw [K.scope]; rfl
  have w5 : Slot' C' (Str.ofString "row") 5 := .inl n5
  have n6 : C'.env.scope.names[6]? = some (Str.ofString "figures", NameKind.cell) := by rw [K.scope]; rfl
  have w6 : Slot' C' (Str.ofString "figures") 6 := .inr ⟨n6, K.cell _ (by kernel_rfl)⟩
  have n7 : C'.env.scope.names[7]? = some (Str.ofString "pads", NameKind.local) := by rw [K.scope]; rfl
  have w7 : Slot' C' (Str.ofString "pads") 7 := .inl n7
  have n8 : C'.env.scope.names[8]? = some (Str.ofString "pattern", NameKind.local) := by rw [K.scope]; rfl
  have w8 : Slot' C' (Str.ofString "pattern") 8 := .inl n8
  have n9 : C'.env.scope.names[9]? = some (Str.ofString "written", NameKind.local) := by rw [K.scope]; rfl
  have w9 : Slot' C' (Str.ofString "written") 9 := .inl n9
  have n10 : C'.env.scope.names[10]? = some (Str.ofString "star", NameKind.cell) := by rw [K.scope]; rfl
  have w10 : Slot' C' (Str.ofString "star") 10 := .inr ⟨n10, K.cell _ (by kernel_rfl)⟩
  have n11 : C'.env.scope.names[11]? = some (Str.ofString "single", NameKind.local) := by rw [K.scope]; rfl
  have w11 : Slot' C' (Str.ofString "single") 11 := .inl n11
  have n12 : C'.env.scope.names[12]? = some (Str.ofString "bare", NameKind.local) := by rw [K.scope]; rfl
  have w12 : Slot' C' (Str.ofString "bare") 12 := .inl n12
  have n13 : C'.env.scope.names[13]? = some (Str.ofString "back", NameKind.local) := by rw [K.scope]; rfl
  have w13 : Slot' C' (Str.ofString "back") 13 := .inl n13
  have n14 : C'.env.scope.names[14]? = some (Str.ofString "full", NameKind.local) := by rw [K.scope]; rfl
  have w14 : Slot' C' (Str.ofString "full") 14 := .inl n14
  have n15 : C'.env.scope.names[15]? = some (Str.ofString "blank", NameKind.local) := by rw [K.scope]; rfl
  have w15 : Slot' C' (Str.ofString "blank") 15 := .inl n15
  have g16 : C'.env.kindOf (Str.ofString "_law_alphabet") = some .globalImplicit := kind_is K.scope (by kernel_rfl)
  have g17 : C'.env.kindOf (Str.ofString "_law_octets") = some .globalImplicit := kind_is K.scope (by kernel_rfl)
  have g18 : C'.env.kindOf (Str.ofString "_law_figures") = some .globalImplicit := kind_is K.scope (by kernel_rfl)
  have g19 : C'.env.kindOf (Str.ofString "len") = some .globalImplicit := kind_is K.scope (by kernel_rfl)
  have g20 : C'.env.kindOf (Str.ofString "b64encode") = some .globalImplicit := kind_is K.scope (by kernel_rfl)
  have g21 : C'.env.kindOf (Str.ofString "type") = some .globalImplicit := kind_is K.scope (by kernel_rfl)
  have g22 : C'.env.kindOf (Str.ofString "bytes") = some .globalImplicit := kind_is K.scope (by kernel_rfl)
  have g23 : C'.env.kindOf (Str.ofString "range") = some .globalImplicit := kind_is K.scope (by kernel_rfl)
  have g24 : C'.env.kindOf (Str.ofString "_law_read") = some .globalImplicit := kind_is K.scope (by kernel_rfl)
  have g25 : C'.env.kindOf (Str.ofString "translate") = some .globalImplicit := kind_is K.scope (by kernel_rfl)
  have g26 : C'.env.kindOf (Str.ofString "_law_decoded") = some .globalImplicit := kind_is K.scope (by kernel_rfl)
  have g27 : C'.env.kindOf (Str.ofString "_law_due") = some .globalImplicit := kind_is K.scope (by kernel_rfl)
  have g28 : C'.env.kindOf (Str.ofString "str") = some .globalImplicit := kind_is K.scope (by kernel_rfl)
  have O' := K.ok
  have F' := K.kf F
  have hin := inter_of O'
  have b16 := is_F O' g16 F'.f27 (by decide)
  have q16 := kp_K O' F'.f27.keep
  have b17 := is_F O' g17 F'.f28 (by decide)
  have q17 := kp_K O' F'.f28.keep
  have b18 := is_F O' g18 F'.f29 (by decide)
  have q18 := kp_K O' F'.f29.keep
  have b19 := is_len O' F' g19
  have b20 := is_F O' g20 F'.f24 (by decide)
  have q20 := kp_K O' F'.f24.keep
  have b21 := is_type O' F' g21
  have b22 := is_bytes O' F' g22
  have b23 := is_range O' F' g23
  have b24 := is_F O' g24 F'.f31 (by decide)
  have q24 := kp_K O' F'.f31.keep
  have b25 := is_F O' g25 F'.f4 (by decide)
  have q25 := kp_K O' F'.f4.keep
  have b26 := is_F O' g26 F'.f33 (by decide)
  have q26 := kp_K O' F'.f33.keep
  have b27 := is_F O' g27 F'.f32 (by decide)
  have q27 := kp_K O' F'.f32.keep
  have b28 := is_str O' F' g28
  show Exs C' (_ :: _) _ _ _
  refine exs_letm ?_
  intro M0
  refine exs_cons ?_
  walk_at "v1"
  refine ev_sliceG ?_
  refine ev_or2 ?_
  walk_at "v1"
  refine tr_listG hla (by rw [List.length_map]; omega) ?_
  refine ite_b (fun e => ?_) (fun e => ?_)
  · refine ⟨la, ns.map .int, rfl, by rw [List.length_map]; omega, ?_⟩
    repeat walk_at "v1"
    refine ⟨hla, fun D hD => ?_⟩
    refine sq_next ?_
    have hne : ns ≠ [] := by
      intro q
      subst q
      cases e
    refine h D _ ?_ (ne64 h64 hD) (tabOk_set hD h64)
    rw [set_self]
    refine congrArg (fun l => some (PO.list l)) ?_
    show slc (ns.map PV.int) none (some ((16 : Nat) : Int)) = _
    rw [slcP_to, numsF, if_neg hne, List.map_take]
  · have hne : ns = [] := by
      cases ns with
      | nil => rfl
      | cons _ _ => cases e
    subst hne
    repeat walk_at "v1"
    refine ⟨by simp, fun a ha => ?_⟩
    refine ⟨a, dflt.map .int, rfl, by decide, ?_⟩
    repeat walk_at "v1"
    refine ⟨.inl set_self, fun D hD => ?_⟩
    refine sq_next ?_
    refine h D _ ?_ (ne64 (tabOk_set ha h64) hD) (tabOk_set hD (tabOk_set ha h64))
    rw [set_self]
    refine congrArg (fun l => some (PO.list l)) ?_
    show slc (dflt.map PV.int) none (some ((16 : Nat) : Int)) = _
    rw [slcP_to, numsF, if_pos rfl, List.map_take]
theorem fmod_nat {n : Int} {k : Nat} (hk : 0 < k) : (((n.fmod (k : Nat)).toNat : Nat) : Int) = n.fmod (k : Nat) ∧ (n.fmod (k : Nat)).toNat < k := by
  rw [Int.fmod_eq_emod_of_nonneg _ (by omega)]
  have h1 := Int.emod_nonneg n (b := (k : Int)) (by omega)
  have h2 := Int.emod_lt_of_pos n (b := (k : Int)) (by omega)
  omega
theorem drawnF_spec (n : Int) : drawnF n < 64 ∧ ((drawnF n : Nat) : Int) = if n.fmod 4 < 2 then 62 + n.fmod 4 else (n.fdiv 4).fmod 64 := by
  obtain ⟨a1, a2⟩ := fmod_nat (n := n) (k := 4) (by decide)
  obtain ⟨b1, b2⟩ := fmod_nat (n := n.fdiv 4) (k := 64) (by decide)
  have a1' : ((n.fmod 4).toNat : Int) = n.fmod 4 := a1
  have b1' : (((n.fdiv 4).fmod 64).toNat : Int) = (n.fdiv 4).fmod 64 := b1
  unfold drawnF
  split
  · omega
  · exact ⟨b2, b1'⟩
theorem fs0_lt (nums : List Int) : ∀ f ∈ fs0F nums, f < 64 := by
  intro f hf
  unfold fs0F at hf
  rcases List.mem_append.mp hf with h | h
  · have hb := (fmod_nat (n := (nums.headD 0).fdiv 8) (k := 64) (by decide)).2
    have hb : (((nums.headD 0).fdiv 8).fmod 64).toNat < 64 := hb
    generalize (((nums.headD 0).fdiv 8).fmod 64).toNat = X at *
    simp at h
    omega
  · obtain ⟨n, _, rfl⟩ := List.mem_map.mp h
    exact (drawnF_spec n).1
theorem nums_len (ns : List Int) : 1 ≤ (numsF ns).length ∧ (numsF ns).length ≤ 16 := by
  unfold numsF
  split
  · decide
  · rename_i h
    rw [List.length_take]
    have := List.length_pos_iff.mpr h
    omega
theorem fs0_len (ns : List Int) : (fs0F (numsF ns)).length = 3 + (numsF ns).length := by
  have := nums_len ns
  unfold fs0F
  simp
  omega
theorem row_len (ns : List Int) : 3 ≤ (rowF (numsF ns)).length ∧ (rowF (numsF ns)).length ≤ 14 := by
  have h1 := fs0_len ns
  have h2 := nums_len ns
  unfold rowF
  rw [u8_len]
  unfold octF octN
  rw [List.length_map, List.length_range, h1]
  omega
set_option maxHeartbeats 4000000 in
theorem law_B {C' : Cx} (K : LawK C') {ns : List Int} {s0 : Option PV} {nb : Addr} {H : PH} {QF : FL → Loc → PH → Prop} (hnb : H nb = some (.list ((numsF ns).map .int))) (hnb64 : nb ≠ 64) (h64 : TabOk H)
    (h : ∀ fb x4 H', H' fb = some (.list ((figF (rowF (numsF ns))).map fun n : Nat => .int (n : Int))) → fb ≠ 64 → TabOk H' →
      Exs C' ((bodyN 34).drop 6) [s0, some (.ref nb), some (.str (alphaF ((numsF ns).headD 0))), some (.str (pairF ((numsF ns).headD 0))), x4, some (.bytes (rowF (numsF ns))), some (.ref fb), none, none, none, none, none, none, none, none, none, none, none, none, none, none, none, none, none, none, none, none, none, none] H' QF) :
    Exs C' ((bodyN 34).drop 1) [s0, some (.ref nb), none, none, none, none, none, none, none, none, none, none, none, none, none, none, none, none, none, none, none, none, none, none, none, none, none, none, none] H QF := by
  have F := K.F
  have hdep := K.depth
  obtain ⟨L', fL, cdL, henv⟩ := K.env
  have n0 : C'.env.scope.names[0]? = some (Str.ofString "script", NameKind.local) := by rw [K.scope]; rfl
  have w0 : Slot' C' (Str.ofString "script") 0 := .inl n0
  have n1 : C'.env.scope.names[1]? = some (Str.ofString "numbers", NameKind.local) := by rw [K.scope]; rfl
  have w1 : Slot' C' (Str.ofString "numbers") 1 := .inl n1
  have n2 : C'.env.scope.names[2]? = some (Str.ofString "alphabet", NameKind.cell) := by rw [K.scope]; rfl
  have w2 : Slot' C' (Str.ofString "alphabet") 2 := .inr ⟨n2, K.cell _ (by kernel_rfl)⟩
  have n3 : C'.env.scope.names[3]? = some (Str.ofString "marks", NameKind.local) := by rw [K.scope]; rfl
  have w3 : Slot' C' (Str.ofString "marks") 3 := .inl n3
  have n4 : C'.env.scope.names[4]? = some (Str.ofString "drawn", NameKind.local) := by rw [K.scope]; rfl
  have w4 : Slot' C' (Str.ofString "drawn") 4 := .inl n4
  have n5 : C'.env.scope.names[5]? = some (Str.ofString "row", NameKind.local) := by rw [K.scope]; rfl
  have w5 : Slot' C' (Str.ofString "row") 5 := .inl n5
  have n6 : C'.env.scope.names[6]? = some (Str.ofString "figures", NameKind.cell) := by rw [K.scope]; rfl
  have w6 : Slot' C' (Str.ofString "figures") 6 := .inr ⟨n6, K.cell _ (by kernel_rfl)⟩
  have n7 : C'.env.scope.names[7]? = some (Str.ofString "pads", NameKind.local) := by rw [K.scope]; rfl
  have w7 : Slot' C' (Str.ofString "pads") 7 := .inl n7
  have n8 : C'.env.scope.names[8]? = some (Str.ofString "pattern", NameKind.local) := by rw [K.scope]; rfl
  have w8 : Slot' C' (Str.ofString "pattern") 8 := .inl n8
  have n9 : C'.env.scope.names[9]? = some (Str.ofString "written", NameKind.local) := by rw [K.scope]; rfl
  have w9 : Slot' C' (Str.ofString "written") 9 := .inl n9
  have n10 : C'.env.scope.names[10]? = some (Str.ofString "star", NameKind.cell) := by rw [K.scope]; rfl
  have w10 : Slot' C' (Str.ofString "star") 10 := .inr ⟨n10, K.cell _ (by kernel_rfl)⟩
  have n11 : C'.env.scope.names[11]? = some (Str.ofString "single", NameKind.local) := by rw [K.scope]; rfl
  have w11 : Slot' C' (Str.ofString "single") 11 := .inl n11
  have n12 : C'.env.scope.names[12]? = some (Str.ofString "bare", NameKind.local) := by rw [K.scope]; rfl
  have w12 : Slot' C' (Str.ofString "bare") 12 := .inl n12
  have n13 : C'.env.scope.names[13]? = some (Str.ofString "back", NameKind.local) := by rw [K.scope]; rfl
  have w13 : Slot' C' (Str.ofString "back") 13 := .inl n13
  have n14 : C'.env.scope.names[14]? = some (Str.ofString "full", NameKind.local) := by rw [K.scope]; rfl
  have w14 : Slot' C' (Str.ofString "full") 14 := .inl n14
  have n15 : C'.env.scope.names[15]? = some (Str.ofString "blank", NameKind.local) := by rw [K.scope]; rfl
  have w15 : Slot' C' (Str.ofString "blank") 15 := .inl n15
  have g16 : C'.env.kindOf (Str.ofString "_law_alphabet") = some .globalImplicit := kind_is K.scope (by kernel_rfl)
  have g17 : C'.env.kindOf (Str.ofString "_law_octets") = some .globalImplicit := kind_is K.scope (by kernel_rfl)
  have g18 : C'.env.kindOf (Str.ofString "_law_figures") = some .globalImplicit := kind_is K.scope (by kernel_rfl)
  have g19 : C'.env.kindOf (Str.ofString "len") = some .globalImplicit := kind_is K.scope (by kernel_rfl)
  have g20 : C'.env.kindOf (Str.ofString "b64encode") = some .globalImplicit := kind_is K.scope (by kernel_rfl)
  have g21 : C'.env.kindOf (Str.ofString "type") = some .globalImplicit := kind_is K.scope (by kernel_rfl)
  have g22 : C'.env.kindOf (Str.ofString "bytes") = some .globalImplicit := kind_is K.scope (by kernel_rfl)
  have g23 : C'.env.kindOf (Str.ofString "range") = some .globalImplicit := kind_is K.scope (by kernel_rfl)
  have g24 : C'.env.kindOf (Str.ofString "_law_read") = some .globalImplicit := kind_is K.scope (by kernel_rfl)
  have g25 : C'.env.kindOf (Str.ofString "translate") = some .globalImplicit := kind_is K.scope (by kernel_rfl)
  have g26 : C'.env.kindOf (Str.ofString "_law_decoded") = some .globalImplicit := kind_is K.scope (by kernel_rfl)
  have g27 : C'.env.kindOf (Str.ofString "_law_due") = some .globalImplicit := kind_is K.scope (by kernel_rfl)
  have g28 : C'.env.kindOf (Str.ofString "str") = some .globalImplicit := kind_is K.scope (by kernel_rfl)
  have O' := K.ok
  have F' := K.kf F
  have hin := inter_of O'
  have b16 := is_F O' g16 F'.f27 (by decide)
  have q16 := kp_K O' F'.f27.keep
  have b17 := is_F O' g17 F'.f28 (by decide)
  have q17 := kp_K O' F'.f28.keep
  have b18 := is_F O' g18 F'.f29 (by decide)
  have q18 := kp_K O' F'.f29.keep
  have b19 := is_len O' F' g19
  have b20 := is_F O' g20 F'.f24 (by decide)
  have q20 := kp_K O' F'.f24.keep
  have b21 := is_type O' F' g21
  have b22 := is_bytes O' F' g22
  have b23 := is_range O' F' g23
  have b24 := is_F O' g24 F'.f31 (by decide)
  have q24 := kp_K O' F'.f31.keep
  have b25 := is_F O' g25 F'.f4 (by decide)
  have q25 := kp_K O' F'.f4.keep
  have b26 := is_F O' g26 F'.f33 (by decide)
  have q26 := kp_K O' F'.f33.keep
  have b27 := is_F O' g27 F'.f32 (by decide)
  have q27 := kp_K O' F'.f32.keep
  have b28 := is_str O' F' g28
  obtain ⟨n0, rest, hnums⟩ : ∃ n0 rest, numsF ns = n0 :: rest := by
    have := (nums_len ns).1
    cases hq : numsF ns with
    | nil => rw [hq] at this; simp at this
    | cons a r => exact ⟨a, r, rfl⟩
  have hrest : rest.length ≤ 15 := by have := (nums_len ns).2; rw [hnums] at this; simpa using this
  generalize numsF ns = nums at *
  subst hnums
  show Exs C' (_ :: _) _ _ _
  refine exs_letm ?_
  intro M0
  refine exs_cons ?_
  repeat walk_at "v1"
  refine sub_list hnb (by decide) (by decide) rfl ?_
  repeat walk_at "v1"
  refine spec_alphabet O' F' (by omega) fun H1 hE1 => ?_
  have hnb1 := hE1.1 _ _ hnb64 hnb
  have h641 := hE1.2.1 h64
  repeat walk_at "v1"
  refine slc_str (by show (abc62 ++ pairF n0).length ≤ _; obtain ⟨m1, m2, e, _⟩ := pairF_spec n0; rw [e]; show 64 ≤ _; decide) ?_
  have hsl : slc (alphaF n0) (some 62) none = pairF n0 := by
    show slc (alphaF n0) (some ((62 : Nat) : Int)) none = _
    rw [slc_from]
    rfl
  rw [hsl]
  repeat walk_at "v1"
  refine ex_assign_listcomp (x := Str.ofString "n") (pe := fun _ => true) (fe := fun z => match z with | .int n => .int ((drawnF n : Nat) : Int) | v => v) O' ⟨by decide, rfl, by decide, by decide, ?_⟩ n4 (by rw [henv]; kernel_rfl) ?_ (by intro _; with_unfolding_all rfl)
  · intro y hy hf
    rcases List.mem_cons.mp hy with rfl | hy
    · cases hf
    rcases List.mem_cons.mp hy with rfl | hy
    · cases hf
    · cases hy
  repeat walk_at "v1"
  refine slc_list hnb1 (by rw [List.length_map, List.length_cons]; omega) fun D hD => ?_
  have hsl2 : slc ((n0 :: rest).map PV.int) (some 1) none = rest.map PV.int := by
    show slc ((n0 :: rest).map PV.int) (some ((1 : Nat) : Int)) none = _
    rw [slcP_from]
    rfl
  rw [hsl2]
  have hD64 := ne64 h641 hD
  refine ⟨rest.map PV.int, ⟨D, rfl, .inl set_self⟩, by rw [List.length_map]; omega, ?_, ?_⟩
  · intro env' hh z hz ce
    obtain ⟨n, hn, rfl⟩ := List.mem_map.mp hz
    refine ⟨rfl, fun _ => ?_⟩
    obtain ⟨hv1, m3, wv, hns, hmx, hab⟩ := ce.var
    obtain ⟨d1, d2⟩ := drawnF_spec n
    show PE _ _ _ abs _ hh (.int ((drawnF n : Nat) : Int))
    refine pe_ifexp (c := decide (n.fmod 4 < 2)) (pb_cmp (pe_bin (pe_local ce.kind hv1 hns hmx hab) pe_int (pop_mod (by decide))) pe_int pop_lt) (fun hc => ?_) (fun hc => ?_)
    · rw [if_pos (of_decide_eq_true hc)] at d2
      rw [d2]
      exact pe_bin pe_int (pe_bin (pe_local ce.kind hv1 hns hmx hab) pe_int (pop_mod (by decide))) pop_add
    · rw [if_neg (of_decide_eq_false hc)] at d2
      rw [d2]
      exact pe_bin (pe_bin (pe_local ce.kind hv1 hns hmx hab) pe_int (pop_div (by decide) (by decide))) pe_int (pop_mod (by decide))
  intro D2 hD2
  have hit : ((rest.map PV.int).filter fun _ => true).map (fun z => match z with | .int n => .int ((drawnF n : Nat) : Int) | v => v) = (rest.map drawnF).map fun n : Nat => PV.int (n : Int) := by
    rw [List.filter_eq_self.mpr (fun _ _ => rfl), List.map_map, List.map_map]
    rfl
  rw [hit]
  have h642 : TabOk ((H1.set D (.list (rest.map PV.int))).set D2 (.list ((rest.map drawnF).map fun n : Nat => PV.int (n : Int)))) := tabOk_set hD2 (tabOk_set hD h641)
  have hD2ne : D2 ≠ 64 := ne64 (tabOk_set hD h641) hD2
  have hnb2 : ((H1.set D (.list (rest.map PV.int))).set D2 (.list ((rest.map drawnF).map fun n : Nat => PV.int (n : Int)))) nb = some (.list ((n0 :: rest).map .int)) := set_old hD2 (set_old hD hnb1)
  have hdr2 : ((H1.set D (.list (rest.map PV.int))).set D2 (.list ((rest.map drawnF).map fun n : Nat => PV.int (n : Int)))) D2 = some (.list ((rest.map drawnF).map fun n : Nat => PV.int (n : Int))) := set_self
  generalize ((H1.set D (.list (rest.map PV.int))).set D2 (.list ((rest.map drawnF).map fun n : Nat => PV.int (n : Int)))) = H2 at *
  repeat walk_at "v1"
  refine sub_list hnb2 (by decide) (by decide) rfl ?_
  repeat walk_at "v1"
  refine bin_div (j := 8) (by decide) (by decide) ?_
  repeat walk_at "v1"
  refine bin_mod (j := 64) (by decide) ?_
  repeat walk_at "v1"
  refine ⟨by simp, fun a ha => ?_⟩
  repeat walk_at "v1"
  refine bin_addL set_self (set_old ha hdr2) (by simp; omega) fun d hd => ?_
  obtain ⟨x1, x2⟩ := fmod_nat (n := n0.fdiv 8) (k := 64) (by decide)
  have x1' : (((n0.fdiv 8).fmod 64).toNat : Int) = (n0.fdiv 8).fmod 64 := x1
  have hcat : ([PV.int 62, PV.int ((n0.fdiv 8).fmod 64), PV.int 63, PV.int 62] ++ (rest.map drawnF).map fun n : Nat => PV.int (n : Int)) = (fs0F (n0 :: rest)).map fun n : Nat => PV.int (n : Int) := by
    unfold fs0F
    rw [List.map_append]
    congr 1
    show _ = [PV.int ((62 : Nat) : Int), PV.int ((((n0.fdiv 8).fmod 64).toNat : Nat) : Int), PV.int ((63 : Nat) : Int), PV.int ((62 : Nat) : Int)]
    rw [x1']
    rfl
  rw [hcat]
  have hd64 : d ≠ 64 := ne64 (tabOk_set ha h642) hd
  repeat walk_at "v1"
  refine spec_octets O' F' (by omega) set_self (by unfold fs0F; simp; omega) hd64 fun H3 hE3 => ?_
  have h643 : TabOk H3 := hE3.2.1 (tabOk_set hd (tabOk_set ha h642))
  have hrow : (rowF (n0 :: rest)).length ≤ 14 := by
    unfold rowF
    rw [u8_len]
    unfold octF octN fs0F
    rw [List.length_map, List.length_range]
    simp
    omega
  repeat walk_at "v1"
  refine spec_figures O' F' (by omega) (show (rowF (n0 :: rest)).length ≤ 80 by omega) fun H4 fb hE4 hfb hn4 => ?_
  repeat walk_at "vx"
  refine sq_next ?_
  exact h fb _ H4 hfb (ne64 h643 hn4) (hE4.2.1 h643)
/-- the filling of figures -/
noncomputable def padL (fs : List Nat) : List Nat := List.replicate (padN fs) 61
theorem neg_mod4 (n : Nat) : ((-(n : Int)).fmod 4).toNat = (4 - n % 4) % 4 ∧ 0 ≤ (-(n : Int)).fmod 4 ∧ (-(n : Int)).fmod 4 < 4 := by
  rw [Int.fmod_eq_emod_of_nonneg _ (by decide)]
  omega
theorem al_len (m1 m2 : Nat) : (abc62 ++ [m1, m2]).length = 64 := rfl
structure Mk (m1 m2 : Nat) : Prop where
  h1 : m1 ∈ marksL
  h2 : m2 ∈ marksL
  h12 : m1 ≠ m2
theorem flat1 (f : Nat → Nat) : ∀ l : List Nat, (l.map fun v => [f v]).flatten = l.map f
  | [] => rfl
  | v :: r => by rw [List.map_cons, List.flatten_cons, flat1 f r]; rfl
theorem chars_len (f : Nat → Nat) : ∀ l : List Nat, ((l.map fun v => [f v]).map (·.length)).sum = l.length
  | [] => rfl
  | v :: r => by rw [List.map_cons, List.map_cons, List.sum_cons, chars_len f r, List.length_cons]; simp; omega
noncomputable def feCh (m1 m2 : Nat) : PV → PV
  | .int n => .str [chF m1 m2 n.toNat]
  | v => v
theorem chars_items {m1 m2 : Nat} (l : List Nat) : ((l.map fun n : Nat => PV.int (n : Int)).filter fun _ => true).map (feCh m1 m2) = (l.map fun v => [chF m1 m2 v]).map PV.str := by
  rw [List.filter_eq_self.mpr (fun _ _ => rfl), List.map_map, List.map_map]
  refine List.map_congr_left fun v _ => ?_
  show PV.str [chF m1 m2 ((v : Int)).toNat] = _
  rw [Int.toNat_natCast]
  rfl
theorem wr_ascii {m1 m2 : Nat} (M : Mk m1 m2) {fs : List Nat} (hf : ∀ f ∈ fs, f < 64) (p : Nat) : ∀ c ∈ wr m1 m2 fs ++ List.replicate p 61, c < 128 := by
  intro c hc
  rcases alph_wr M.h1 M.h2 M.h12 hf p c hc with q | q | q
  · unfold BaseC at q; omega
  · rw [q]; exact (marks_lt m1 M.h1).1
  · rw [q]; exact (marks_lt m2 M.h2).1
set_option maxHeartbeats 4000000 in
theorem law_C {C' : Cx} (K : LawK C') {a0 a1 a4 : Option PV} {fb : Addr} {row : List UInt8} {m1 m2 : Nat} (M : Mk m1 m2) {H : PH} {QF : FL → Loc → PH → Prop} (hrow : row.length ≤ 14) (hfb : H fb = some (.list ((figF row).map fun n : Nat => .int (n : Int)))) (hfb64 : fb ≠ 64) (h64 : TabOk H)
    (h : ∀ H', H' fb = some (.list ((figF row).map fun n : Nat => .int (n : Int))) → TabOk H' →
      Exs C' ((bodyN 34).drop 10) [a0, a1, some (.str (abc62 ++ [m1, m2])), some (.str [m1, m2]), a4, some (.bytes row), some (.ref fb), some (.str (padL (figF row))), some (.str (wr m1 m2 (figF row) ++ padL (figF row))), some (.bytes (u8 (wr m1 m2 (figF row) ++ padL (figF row)))), none, none, none, none, none, none, none, none, none, none, none, none, none, none, none, none, none, none, none] H' QF) :
    Exs C' ((bodyN 34).drop 6) [a0, a1, some (.str (abc62 ++ [m1, m2])), some (.str [m1, m2]), a4, some (.bytes row), some (.ref fb), none, none, none, none, none, none, none, none, none, none, none, none, none, none, none, none, none, none, none, none, none, none] H QF := by
  have F := K.F
  have hdep := K.depth
  obtain ⟨L', fL, cdL, henv⟩ := K.env
  have n0 : C'.env.scope.names[0]? = some (Str.ofString "script", NameKind.local) := by rw [K.scope]; rfl
  have w0 : Slot' C' (Str.ofString "script") 0 := .inl n0
  have n1 : C'.env.scope.names[1]? = some (Str.ofString "numbers", NameKind.local) := by rw [K.scope]; rfl
  have w1 : Slot' C' (Str.ofString "numbers") 1 := .inl n1
  have n2 : C'.env.scope.names[2]? = some (Str.ofString "alphabet", NameKind.cell) := by rw [K.scope]; rfl
  have w2 : Slot' C' (Str.ofString "alphabet") 2 := .inr ⟨n2, K.cell _ (by kernel_rfl)⟩
  have n3 : C'.env.scope.names[3]? = some (Str.ofString "marks", NameKind.local) := by rw [K.scope]; rfl
  have w3 : Slot' C' (Str.ofString "marks") 3 := .inl n3
  have n4 : C'.env.scope.names[4]? = some (Str.ofString "drawn", NameKind.local) := by rw [K.scope]; rfl
  have w4 : Slot' C' (Str.ofString "drawn") 4 := .inl n4
  have n5 : C'.env.scope.names[5]? = some (Str.ofString "row", NameKind.local) := by rw [K.scope]; rfl
  have w5 : Slot' C' (Str.ofString "row") 5 := .inl n5
  have n6 : C'.env.scope.names[6]? = some (Str.ofString "figures", NameKind.cell) := by rw [K.scope]; rfl
  have w6 : Slot' C' (Str.ofString "figures") 6 := .inr ⟨n6, K.cell _ (by kernel_rfl)⟩
  have n7 : C'.env.scope.names[7]? = some (Str.ofString "pads", NameKind.local) := by rw [K.scope]; rfl
  have w7 : Slot' C' (Str.ofString "pads") 7 := .inl n7
  have n8 : C'.env.scope.names[8]? = some (Str.ofString "pattern", NameKind.local) := by rw [K.scope]; rfl
  have w8 : Slot' C' (Str.ofString "pattern") 8 := .inl n8
  have n9 : C'.env.scope.names[9]? = some (Str.ofString "written", NameKind.local) := by rw [K.scope]; rfl
  have w9 : Slot' C' (Str.ofString "written") 9 := .inl n9
  have n10 : C'.env.scope.names[10]? = some (Str.ofString "star", NameKind.cell) := by rw [K.scope]; rfl
  have w10 : Slot' C' (Str.ofString "star") 10 := .inr ⟨n10, K.cell _ (by kernel_rfl)⟩
  have n11 : C'.env.scope.names[11]? = some (Str.ofString "single", NameKind.local) := by rw [K.scope]; rfl
  have w11 : Slot' C' (Str.ofString "single") 11 := .inl n11
  have n12 : C'.env.scope.names[12]? = some (Str.ofString "bare", NameKind.local) := by rw [K.scope]; rfl
  have w12 : Slot' C' (Str.ofString "bare") 12 := .inl n12
  have n13 : C'.env.scope.names[13]? = some (Str.ofString "back", NameKind.local) := by rw [K.scope]; rfl
  have w13 : Slot' C' (Str.ofString "back") 13 := .inl n13
  have n14 : C'.env.scope.names[14]? = some (Str.ofString "full", NameKind.local) := by rw [K.scope]; rfl
  have w14 : Slot' C' (Str.ofString "full") 14 := .inl n14
  have n15 : C'.env.scope.names[15]? = some (Str.ofString "blank", NameKind.local) := by rw [K.scope]; rfl
  have w15 : Slot' C' (Str.ofString "blank") 15 := .inl n15
  have g16 : C'.env.kindOf (Str.ofString "_law_alphabet") = some .globalImplicit := kind_is K.scope (by kernel_rfl)
  have g17 : C'.env.kindOf (Str.ofString "_law_octets") = some .globalImplicit := kind_is K.scope (by kernel_rfl)
  have g18 : C'.env.kindOf (Str.ofString "_law_figures") = some .globalImplicit := kind_is K.scope (by kernel_rfl)
  have g19 : C'.env.kindOf (Str.ofString "len") = some .globalImplicit := kind_is K.scope (by kernel_rfl)
  have g20 : C'.env.kindOf (Str.ofString "b64encode") = some .globalImplicit := kind_is K.scope (by kernel_rfl)
  have g21 : C'.env.kindOf (Str.ofString "type") = some .globalImplicit := kind_is K.scope (by kernel_rfl)
  have g22 : C'.env.kindOf (Str.ofString "bytes") = some .globalImplicit := kind_is K.scope (by kernel_rfl)
  have g23 : C'.env.kindOf (Str.ofString "range") = some .globalImplicit := kind_is K.scope (by kernel_rfl)
  have g24 : C'.env.kindOf (Str.ofString "_law_read") = some .globalImplicit := kind_is K.scope (by kernel_rfl)
  have g25 : C'.env.kindOf (Str.ofString "translate") = some .globalImplicit := kind_is K.scope (by kernel_rfl)
  have g26 : C'.env.kindOf (Str.ofString "_law_decoded") = some .globalImplicit := kind_is K.scope (by kernel_rfl)
  have g27 : C'.env.kindOf (Str.ofString "_law_due") = some .globalImplicit := kind_is K.scope (by kernel_rfl)
  have g28 : C'.env.kindOf (Str.ofString "str") = some .globalImplicit := kind_is K.scope (by kernel_rfl)
  have O' := K.ok
  have F' := K.kf F
  have hin := inter_of O'
  have b16 := is_F O' g16 F'.f27 (by decide)
  have q16 := kp_K O' F'.f27.keep
  have b17 := is_F O' g17 F'.f28 (by decide)
  have q17 := kp_K O' F'.f28.keep
  have b18 := is_F O' g18 F'.f29 (by decide)
  have q18 := kp_K O' F'.f29.keep
  have b19 := is_len O' F' g19
  have b20 := is_F O' g20 F'.f24 (by decide)
  have q20 := kp_K O' F'.f24.keep
  have b21 := is_type O' F' g21
  have b22 := is_bytes O' F' g22
  have b23 := is_range O' F' g23
  have b24 := is_F O' g24 F'.f31 (by decide)
  have q24 := kp_K O' F'.f31.keep
  have b25 := is_F O' g25 F'.f4 (by decide)
  have q25 := kp_K O' F'.f4.keep
  have b26 := is_F O' g26 F'.f33 (by decide)
  have q26 := kp_K O' F'.f33.keep
  have b27 := is_F O' g27 F'.f32 (by decide)
  have q27 := kp_K O' F'.f32.keep
  have b28 := is_str O' F' g28
  have hfl := figF_len row
  have l61 : (Str.ofString "=").cps.toList = [61] := by decide +kernel
  have l0 : (Str.ofString "").cps.toList = [] := by decide +kernel
  have hcA := K.cell (Str.ofString "alphabet") (by kernel_rfl)
  have hcF := K.cell (Str.ofString "figures") (by kernel_rfl)
  show Exs C' (_ :: _) _ _ _
  refine exs_letm ?_
  intro M0
  refine exs_cons ?_
  repeat walk_at "v1"
  refine ca_len_list hfb (by rw [List.length_map]; omega) ?_
  rw [List.length_map]
  repeat walk_at "v1"
  refine bin_mod (j := 4) (by decide) ?_
  rw [l61]
  obtain ⟨p1, p2, p3⟩ := neg_mod4 (figF row).length
  refine bin_mulS p2 (by omega) ?_
  rw [p1]
  show Sq C' _ _ .next ((_ : Loc).set 7 (some (.str (padL (figF row))))) _
  repeat walk_at "v1"
  refine ev_method "str" "str.join" PySem.F.plainAttrs_str PySem.F.slot_str_join PySem.F.type_str_join ?_ (by with_unfolding_all rfl) (by with_unfolding_all rfl) (by intro _; with_unfolding_all rfl) (by simp)
  repeat walk_at "v1"
  refine ⟨rfl, ?_⟩
  repeat walk_at "v1"
  refine ev_listcomp (x := Str.ofString "figure") (pe := fun _ => true) (fe := feCh m1 m2) O' ⟨by decide, rfl, by decide, by decide, ?_⟩ ?_
  · intro y hy hf
    rcases List.mem_cons.mp hy with rfl | hy
    · cases hf
    rcases List.mem_cons.mp hy with rfl | hy
    · cases hf
    rcases List.mem_cons.mp hy with rfl | hy
    · exact hcA
    · cases hy
  repeat walk_at "v1"
  refine ⟨(figF row).map fun n : Nat => .int (n : Int), ⟨fb, rfl, .inl hfb⟩, by rw [List.length_map]; omega, ?_, ?_⟩
  · intro env' hh z hz ce
    obtain ⟨n, hn, rfl⟩ := List.mem_map.mp hz
    have hn64 := figF_lt row n hn
    refine ⟨rfl, fun _ => ?_⟩
    obtain ⟨hv1, m3, wv, hns, hmx, hab⟩ := ce.var
    obtain ⟨s1, cs, ws, s2, s3, s4⟩ := ce.cell (Str.ofString "alphabet") 2 _ (by decide) (by decide) n2 rfl
    exact pe_sub (pe_cell ce.kind s1 s2 s3 s4) (pe_local ce.kind hv1 hns hmx hab) (pop_str (y := abc62 ++ [m1, m2]) (by omega) (by rw [al_len]; omega) (by rw [al_len]; decide))
  intro D hD
  rw [chars_items]
  repeat walk_at "v1"
  rw [l0]
  refine ca_join (ys := (figF row).map fun v => [chF m1 m2 v]) set_self (by rw [chars_len]; omega) ?_
  rw [flat1]
  show _
  have hD64 := tabOk_set (po := .list (((figF row).map fun v => [chF m1 m2 v]).map PV.str)) hD h64
  have hfb1 : (H.set D (.list (((figF row).map fun v => [chF m1 m2 v]).map PV.str))) fb = some (.list ((figF row).map fun n : Nat => .int (n : Int))) := set_old hD hfb
  generalize (H.set D (.list (((figF row).map fun v => [chF m1 m2 v]).map PV.str))) = H1 at *
  repeat walk_at "v1"
  have hpl : (padL (figF row)).length ≤ 3 := by unfold padL padN; rw [List.length_replicate]; omega
  refine bin_addS (by rw [List.length_map]; omega) ?_
  show Sq C' _ _ .next ((_ : Loc).set 8 (some (.str (wr m1 m2 (figF row) ++ padL (figF row))))) _
  have hpat : (wr m1 m2 (figF row) ++ padL (figF row)).length ≤ 30 := by rw [List.length_append, wr_len]; omega
  have hasc := wr_ascii M (figF_lt row) (padN (figF row))
  repeat walk_at "v1"
  refine ev_method "str" "str.encode" PySem.F.plainAttrs_str slot_str_encode type_str_encode ?_ (by with_unfolding_all rfl) (by with_unfolding_all rfl) (by intro _; with_unfolding_all rfl) (by simp)
  repeat walk_at "v1"
  refine ⟨rfl, ?_⟩
  repeat walk_at "v1"
  rw [show (Str.ofString "ascii").cps.toList = asciiName from by decide +kernel]
  refine ca_encode (x := [m1, m2]) (fun c hc => ?_) (by show 2 ≤ _; decide) ?_
  · have hc' : c = m1 ∨ c = m2 := by simpa using hc
    rcases hc' with rfl | rfl
    · exact (marks_lt _ M.h1).1
    · exact (marks_lt _ M.h2).1
  repeat walk_at "v1"
  refine spec_encode O' F' (by omega) (by omega) (by rfl) fun H2 hE2 => ?_
  show Sq C' _ _ .next ((_ : Loc).set 9 (some (.bytes (encF row (u8 [m1, m2]))))) _
  rw [encF_wr M.h1 M.h2 M.h12 row]
  show Sq C' _ _ .next ((_ : Loc).set 9 (some (.bytes (u8 (wr m1 m2 (figF row) ++ padL (figF row)))))) _
  have hfb2 := hE2.1 _ _ hfb64 hfb1
  have h642 := hE2.2.1 hD64
  generalize hpatg : wr m1 m2 (figF row) ++ padL (figF row) = pat at *
  repeat walk_at "vx"
  refine sq_next ?_
  refine exs_cons ?_
  refine ex_if_cut false ?_ ?_
  · repeat walk_at "v1"
    refine ite_bF (by decide) ?_
    repeat walk_at "v1"
    refine ev_method "str" "str.encode" PySem.F.plainAttrs_str slot_str_encode type_str_encode ?_ (by with_unfolding_all rfl) (by with_unfolding_all rfl) (by intro _; with_unfolding_all rfl) (by simp)
    repeat walk_at "v1"
    refine ⟨rfl, ?_⟩
    repeat walk_at "v1"
    rw [show (Str.ofString "ascii").cps.toList = asciiName from by decide +kernel]
    refine ca_encode (x := pat) (by rw [← hpatg]; exact hasc) (by omega) ?_
    repeat walk_at "v1"
    refine ite_bF (by unfold u8; simp) ?_
    repeat walk_at "v1"
    exact ⟨rfl, rfl⟩
  · refine ite_F ?_
    refine exs_nil ?_
    refine sq_next ?_
    exact h H2 hfb2 h642
theorem find_star (m1 m2 : Nat) : find1 (abc62 ++ [m1, m2]) 42 = starI m1 m2 := by
  unfold find1 starI
  have e0 : abc62.findIdx? (· == 42) = none := by decide +kernel
  rw [List.findIdx?_append, e0]
  have hl : abc62.length = 62 := rfl
  by_cases h1 : m1 = 42
  · subst h1
    rw [if_pos rfl]
    rfl
  · rw [if_neg h1]
    by_cases h2 : m2 = 42
    · subst h2
      rw [if_pos rfl]
      simp [List.findIdx?_cons, h1, hl]
    · rw [if_neg h2]
      simp [List.findIdx?_cons, h1, h2]
theorem pick_items (star : Int) (figs : List Nat) :
    (((List.range figs.length).map fun k => PV.int (k : Nat)).filter fun z => match z with
      | .int k => decide (k.toNat = 0 ∨ ((figs.getD k.toNat 0 : Nat) : Int) ≠ star ∨ ((figs.getD (k.toNat - 1) 0 : Nat) : Int) ≠ star)
      | _ => false).map (fun z => match z with | .int k => PV.int ((figs.getD k.toNat 0 : Nat) : Int) | v => v) = (singB star false figs).map fun n : Nat => PV.int (n : Int) := by
  rw [← pick_single, List.filter_map, List.map_map, List.map_map]
  congr 1
theorem dec_nat {l : List Nat} (h : ∀ c ∈ l, c < 128) : (u8 l).map (·.toNat) = l := by
  unfold u8
  rw [List.map_map]
  conv => rhs; rw [← List.map_id l]
  refine List.map_congr_left fun c hc => ?_
  show c.toUInt8.toNat = c
  have := h c hc
  simp
  omega
set_option maxHeartbeats 4000000 in
theorem law_D {C' : Cx} (K : LawK C') {a0 a1 a4 a8 : Option PV} {fb : Addr} {row : List UInt8} {m1 m2 : Nat} (M : Mk m1 m2) {H : PH} {QF : FL → Loc → PH → Prop} (hrow0 : 3 ≤ row.length) (hrow : row.length ≤ 14) (hfb : H fb = some (.list ((figF row).map fun n : Nat => .int (n : Int)))) (hfb64 : fb ≠ 64) (h64 : TabOk H)
    (h : ∀ a10 sb H', H' fb = some (.list ((figF row).map fun n : Nat => .int (n : Int))) → H' sb = some (.list ((singB (starI m1 m2) false (figF row)).map fun n : Nat => .int (n : Int))) → sb ≠ 64 → TabOk H' →
      Exs C' ((bodyN 34).drop 12) [a0, a1, some (.str (abc62 ++ [m1, m2])), some (.str [m1, m2]), a4, some (.bytes row), some (.ref fb), some (.str (padL (figF row))), a8, some (.bytes (u8 (wr m1 m2 (figF row) ++ padL (figF row)))), a10, some (.ref sb), none, none, none, none, none, none, none, none, none, none, none, none, none, none, none, none, none] H' QF) :
    Exs C' ((bodyN 34).drop 10) [a0, a1, some (.str (abc62 ++ [m1, m2])), some (.str [m1, m2]), a4, some (.bytes row), some (.ref fb), some (.str (padL (figF row))), a8, some (.bytes (u8 (wr m1 m2 (figF row) ++ padL (figF row)))), none, none, none, none, none, none, none, none, none, none, none, none, none, none, none, none, none, none, none] H QF := by
  have F := K.F
  have hdep := K.depth
  obtain ⟨L', fL, cdL, henv⟩ := K.env
  have n0 : C'.env.scope.names[0]? = some (Str.ofString "script", NameKind.local) := by rw [K.scope]; rfl
  have w0 : Slot' C' (Str.ofString "script") 0 := .inl n0
  have n1 : C'.env.scope.names[1]? = some (Str.ofString "numbers", NameKind.local) := by rw [K.scope]; rfl
  have w1 : Slot' C' (Str.ofString "numbers") 1 := .inl n1
  have n2 : C'.env.scope.names[2]? = some (Str.ofString "alphabet", NameKind.cell) := by rw [K.scope]; rfl
  have w2 : Slot' C' (Str.ofString "alphabet") 2 := .inr ⟨n2, K.cell _ (by kernel_rfl)⟩
  have n3 : C'.env.scope.names[3]? = some (Str.ofString "marks", NameKind.local) := by rw [K.scope]; rfl
  have w3 : Slot' C' (Str.ofString "marks") 3 := .inl n3
  have n4 : C'.env.scope.names[4]? = some (Str.ofString "drawn", NameKind.local) := by rw [K.scope]; rfl
  have w4 : Slot' C' (Str.ofString "drawn") 4 := .inl n4
  have n5 : C'.env.scope.names[5]? = some (Str.ofString "row", NameKind.local) := by rw [K.scope]; rfl
  have w5 : Slot' C' (Str.ofString "row") 5 := .inl n5
  have n6 : C'.env.scope.names[6]? = some (Str.ofString "figures", NameKind.cell) := by rw [K.scope]; rfl
  have w6 : Slot' C' (Str.ofString "figures") 6 := .inr ⟨n6, K.cell _ (by kernel_rfl)⟩
  have n7 : C'.env.scope.names[7]? = some (Str.ofString "pads", NameKind.local) := by rw [K.scope]; rfl
  have w7 : Slot' C' (Str.ofString "pads") 7 := .inl n7
  have n8 : C'.env.scope.names[8]? = some (Str.ofString "pattern", NameKind.local) := by rw [K.scope]; rfl
  have w8 : Slot' C' (Str.ofString "pattern") 8 := .inl n8
  have n9 : C'.env.scope.names[9]? = some (Str.ofString "written", NameKind.local) := by rw [K.scope]; rfl
  have w9 : Slot' C' (Str.ofString "written") 9 := .inl n9
  have n10 : C'.env.scope.names[10]? = some (Str.ofString "star", NameKind.cell) := by rw [K.scope]; rfl
  have w10 : Slot' C' (Str.ofString "star") 10 := .inr ⟨n10, K.cell _ (by kernel_rfl)⟩
  have n11 : C'.env.scope.names[11]? = some (Str.ofString "single", NameKind.local) := by rw [K.scope]; rfl
  have w11 : Slot' C' (Str.ofString "single") 11 := .inl n11
  have n12 : C'.env.scope.names[12]? = some (Str.ofString "bare", NameKind.local) := by rw [K.scope]; rfl
  have w12 : Slot' C' (Str.ofString "bare") 12 := .inl n12
  have n13 : C'.env.scope.names[13]? = some (Str.ofString "back", NameKind.local) := by rw [K.scope]; rfl
  have w13 : Slot' C' (Str.ofString "back") 13 := .inl n13
  have n14 : C'.env.scope.names[14]? = some (Str.ofString "full", NameKind.local) := by rw [K.scope]; rfl
  have w14 : Slot' C' (Str.ofString "full") 14 := .inl n14
  have n15 : C'.env.scope.names[15]? = some (Str.ofString "blank", NameKind.local) := by rw [K.scope]; rfl
  have w15 : Slot' C' (Str.ofString "blank") 15 := .inl n15
  have g16 : C'.env.kindOf (Str.ofString "_law_alphabet") = some .globalImplicit := kind_is K.scope (by kernel_rfl)
  have g17 : C'.env.kindOf (Str.ofString "_law_octets") = some .globalImplicit := kind_is K.scope (by kernel_rfl)
  have g18 : C'.env.kindOf (Str.ofString "_law_figures") = some .globalImplicit := kind_is K.scope (by kernel_rfl)
  have g19 : C'.env.kindOf (Str.ofString "len") = some .globalImplicit := kind_is K.scope (by kernel_rfl)
  have g20 : C'.env.kindOf (Str.ofString "b64encode") = some .globalImplicit := kind_is K.scope (by kernel_rfl)
  have g21 : C'.env.kindOf (Str.ofString "type") = some .globalImplicit := kind_is K.scope (by kernel_rfl)
  have g22 : C'.env.kindOf (Str.ofString "bytes") = some .globalImplicit := kind_is K.scope (by kernel_rfl)
  have g23 : C'.env.kindOf (Str.ofString "range") = some .globalImplicit := kind_is K.scope (by kernel_rfl)
  have g24 : C'.env.kindOf (Str.ofString "_law_read") = some .globalImplicit := kind_is K.scope (by kernel_rfl)
  have g25 : C'.env.kindOf (Str.ofString "translate") = some .globalImplicit := kind_is K.scope (by kernel_rfl)
  have g26 : C'.env.kindOf (Str.ofString "_law_decoded") = some .globalImplicit := kind_is K.scope (by kernel_rfl)
  have g27 : C'.env.kindOf (Str.ofString "_law_due") = some .globalImplicit := kind_is K.scope (by kernel_rfl)
  have g28 : C'.env.kindOf (Str.ofString "str") = some .globalImplicit := kind_is K.scope (by kernel_rfl)
  have O' := K.ok
  have F' := K.kf F
  have hin := inter_of O'
  have b16 := is_F O' g16 F'.f27 (by decide)
  have q16 := kp_K O' F'.f27.keep
  have b17 := is_F O' g17 F'.f28 (by decide)
  have q17 := kp_K O' F'.f28.keep
  have b18 := is_F O' g18 F'.f29 (by decide)
  have q18 := kp_K O' F'.f29.keep
  have b19 := is_len O' F' g19
  have b20 := is_F O' g20 F'.f24 (by decide)
  have q20 := kp_K O' F'.f24.keep
  have b21 := is_type O' F' g21
  have b22 := is_bytes O' F' g22
  have b23 := is_range O' F' g23
  have b24 := is_F O' g24 F'.f31 (by decide)
  have q24 := kp_K O' F'.f31.keep
  have b25 := is_F O' g25 F'.f4 (by decide)
  have q25 := kp_K O' F'.f4.keep
  have b26 := is_F O' g26 F'.f33 (by decide)
  have q26 := kp_K O' F'.f33.keep
  have b27 := is_F O' g27 F'.f32 (by decide)
  have q27 := kp_K O' F'.f32.keep
  have b28 := is_str O' F' g28
  have hfl := figF_len row
  have hcS := K.cell (Str.ofString "star") (by kernel_rfl)
  have hcF := K.cell (Str.ofString "figures") (by kernel_rfl)
  show Exs C' (_ :: _) _ _ _
  refine exs_letm ?_
  intro M0
  refine exs_cons ?_
  walk_at "v1"
  refine ev_method "str" "str.find" PySem.F.plainAttrs_str PySem.F.slot_str_find PySem.F.type_str_find ?_ (by with_unfolding_all rfl) (by with_unfolding_all rfl) (by intro _; with_unfolding_all rfl) (by simp)
  repeat walk_at "v1"
  refine ⟨rfl, ?_⟩
  repeat walk_at "v1"
  rw [show (Str.ofString "*").cps.toList = [42] from by decide +kernel]
  refine ca_find ?_
  rw [find_star]
  repeat walk_at "v1"
  refine ex_assign_listcomp (x := Str.ofString "k") (pe := fun z => match z with
      | .int k => decide (k.toNat = 0 ∨ (((figF row).getD k.toNat 0 : Nat) : Int) ≠ starI m1 m2 ∨ (((figF row).getD (k.toNat - 1) 0 : Nat) : Int) ≠ starI m1 m2)
      | _ => false) (fe := fun z => match z with | .int k => PV.int (((figF row).getD k.toNat 0 : Nat) : Int) | v => v) O' ⟨by decide, rfl, by decide, by decide, ?_⟩ n11 (by rw [henv]; kernel_rfl) ?_ (by intro _; with_unfolding_all rfl)
  · intro y hy hf
    simp only [List.mem_cons, List.not_mem_nil, or_false] at hy
    rcases hy with rfl | rfl | rfl | rfl
    · cases hf
    · cases hf
    all_goals first | exact hcS | exact hcF
  repeat walk_at "v1"
  refine ca_len_list hfb (by rw [List.length_map]; omega) ?_
  rw [List.length_map]
  repeat walk_at "v1"
  refine ca_range ?_
  intro ra hra
  have hfbr := set_old (po := .range ((figF row).length : Nat)) hra hfb
  have h64r := tabOk_set (po := .range ((figF row).length : Nat)) hra h64
  refine ⟨(List.range (figF row).length).map fun k => .int (k : Nat), ⟨ra, rfl, .inr ⟨_, by omega, by omega, set_self, by rw [Int.toNat_natCast]⟩⟩, by rw [List.length_map, List.length_range]; omega, ?_, ?_⟩
  · intro env' hh z hz ce
    obtain ⟨k, hk, rfl⟩ := List.mem_map.mp hz
    have hk := List.mem_range.mp hk
    obtain ⟨hv1, m3, wv, hns, hmx, hab⟩ := ce.var
    obtain ⟨s1, cs, ws, s2, s3, s4⟩ := ce.cell (Str.ofString "figures") 6 _ (by decide) (by decide) n6 rfl
    obtain ⟨t1, ct, wt, t2, t3, t4⟩ := ce.cell (Str.ofString "star") 10 _ (by decide) (by decide) n10 rfl
    obtain ⟨vs, hL, hvs⟩ := ce.list fb _ hfbr
    have get : ∀ j, j < (figF row).length → ∃ u, vs[j]? = some u ∧ abs u = .int (((figF row).getD j 0 : Nat) : Int) := fun j hj => by
      have e : (vs.toList.map abs)[j]? = some (.int (((figF row).getD j 0 : Nat) : Int)) := by
        rw [hvs, List.getElem?_map, List.getElem?_eq_getElem hj]
        simp [List.getD_eq_getElem?_getD, List.getElem?_eq_getElem hj]
      rw [List.getElem?_map] at e
      cases hu : vs.toList[j]? with
      | none => rw [hu] at e; cases e
      | some u =>
        rw [hu] at e
        refine ⟨u, ?_, Option.some.inj e⟩
        rw [← hu, Array.getElem?_toList]
    obtain ⟨u0, hu0, ha0⟩ := get k hk
    obtain ⟨u1, hu1, ha1⟩ := get (k - 1) (by omega)
    have pop0 : ∀ {e slice : Expr}, POp C'.prog C'.w C'.A (subscriptTail e slice) (.ref fb) (.int (k : Nat)) hh (.int (((figF row).getD k 0 : Nat) : Int)) := fun {e slice} => ha0 ▸ pop_list hL (by omega) (by omega) (by rw [Int.toNat_natCast]; exact hu0)
    refine ⟨?_, fun _ => ?_⟩
    · have hpe : decide (((k : Nat) : Int).toNat = 0 ∨ (((figF row).getD ((k : Nat) : Int).toNat 0 : Nat) : Int) ≠ starI m1 m2 ∨ (((figF row).getD (((k : Nat) : Int).toNat - 1) 0 : Nat) : Int) ≠ starI m1 m2) =
          (((k : Nat) : Int) == 0 || (((((figF row).getD k 0 : Nat) : Int) != starI m1 m2) || ((((figF row).getD (k - 1) 0 : Nat) : Int) != starI m1 m2))) := by
        rw [Int.toNat_natCast, Bool.eq_iff_iff]
        simp only [decide_eq_true_eq, Bool.or_eq_true, beq_iff_eq, bne_iff_ne]
        omega
      show PE _ _ _ id _ hh (decide (((k : Nat) : Int).toNat = 0 ∨ (((figF row).getD ((k : Nat) : Int).toNat 0 : Nat) : Int) ≠ starI m1 m2 ∨ (((figF row).getD (((k : Nat) : Int).toNat - 1) 0 : Nat) : Int) ≠ starI m1 m2))
      rw [hpe]
      refine pb_or3 (pb_cmp (pe_local ce.kind hv1 hns hmx hab) pe_int pop_eq) (fun _ => pb_cmp (pe_sub (pe_cell ce.kind s1 s2 s3 s4) (pe_local ce.kind hv1 hns hmx hab) pop0) (pe_cell ce.kind t1 t2 t3 t4) pop_ne) (fun c1 _ => ?_)
      have hk1 : ¬ ((k : Nat) : Int) = 0 := by simpa using c1
      have hki : ((k : Nat) : Int) - 1 = ((k - 1 : Nat) : Int) := by omega
      refine pb_cmp (pe_sub (pe_cell ce.kind s1 s2 s3 s4) (pe_bin (pe_local ce.kind hv1 hns hmx hab) pe_int pop_sub) ?_) (pe_cell ce.kind t1 t2 t3 t4) pop_ne
      rw [hki]
      exact ha1 ▸ pop_list hL (by omega) (by omega) (by rw [Int.toNat_natCast]; exact hu1)
    · show PE _ _ _ abs _ hh (PV.int (((figF row).getD ((k : Nat) : Int).toNat 0 : Nat) : Int))
      rw [Int.toNat_natCast]
      exact pe_sub (pe_cell ce.kind s1 s2 s3 s4) (pe_local ce.kind hv1 hns hmx hab) pop0
  · intro D hD
    rw [pick_items]
    refine h _ D _ (set_old hD hfbr) set_self (ne64 h64r hD) (tabOk_set hD h64r)
set_option maxHeartbeats 4000000 in
theorem law_E {C' : Cx} (K : LawK C') {a0 a1 a4 a8 a10 : Option PV} {fb sb : Addr} {row : List UInt8} {m1 m2 : Nat} (M : Mk m1 m2) {H : PH} {QF : FL → Loc → PH → Prop} (hrow0 : 3 ≤ row.length) (hrow : row.length ≤ 14) {sg : List Nat} (hsg : sg = singB (starI m1 m2) false (figF row))
    (hfb : H fb = some (.list ((figF row).map fun n : Nat => .int (n : Int)))) (hfb64 : fb ≠ 64) (hsb : H sb = some (.list (sg.map fun n : Nat => .int (n : Int)))) (hsb64 : sb ≠ 64) (h64 : TabOk H)
    (h : ∀ H', H' fb = some (.list ((figF row).map fun n : Nat => .int (n : Int))) → H' sb = some (.list (sg.map fun n : Nat => .int (n : Int))) → TabOk H' →
      Exs C' ((bodyN 34).drop 15) [a0, a1, some (.str (abc62 ++ [m1, m2])), some (.str [m1, m2]), a4, some (.bytes row), some (.ref fb), some (.str (padL (figF row))), a8, some (.bytes (u8 (wr m1 m2 (figF row) ++ padL (figF row)))), a10, some (.ref sb), some (.str (wr m1 m2 sg)), some (.str (wr m1 m2 sg ++ padL (figF row))), none, none, none, none, none, none, none, none, none, none, none, none, none, none, none] H' QF) :
    Exs C' ((bodyN 34).drop 12) [a0, a1, some (.str (abc62 ++ [m1, m2])), some (.str [m1, m2]), a4, some (.bytes row), some (.ref fb), some (.str (padL (figF row))), a8, some (.bytes (u8 (wr m1 m2 (figF row) ++ padL (figF row)))), a10, some (.ref sb), none, none, none, none, none, none, none, none, none, none, none, none, none, none, none, none, none] H QF := by
  have F := K.F
  have hdep := K.depth
  obtain ⟨L', fL, cdL, henv⟩ := K.env
  have n0 : C'.env.scope.names[0]? = some (Str.ofString "script", NameKind.local) := by rw [K.scope]; rfl
  have w0 : Slot' C' (Str.ofString "script") 0 := .inl n0
  have n1 : C'.env.scope.names[1]? = some (Str.ofString "numbers", NameKind.local) := by rw [K.scope]; rfl
  have w1 : Slot' C' (Str.ofString "numbers") 1 := .inl n1
  have n2 : C'.env.scope.names[2]? = some (Str.ofString "alphabet", NameKind.cell) := by rw [K.scope]; rfl
  have w2 : Slot' C' (Str.ofString "alphabet") 2 := .inr ⟨n2, K.cell _ (by kernel_rfl)⟩
  have n3 : C'.env.scope.names[3]? = some (Str.ofString "marks", NameKind.local) := by rw [K.scope]; rfl
  have w3 : Slot' C' (Str.ofString "marks") 3 := .inl n3
  have n4 : C'.env.scope.names[4]? = some (Str.ofString "drawn", NameKind.local) := by rw [K.scope]; rfl
  have w4 : Slot' C' (Str.ofString "drawn") 4 := .inl n4
  have n5 : C'.env.scope.names[5]? = some (Str.ofString "row", NameKind.local) := by rw [K.scope]; rfl
  have w5 : Slot' C' (Str.ofString "row") 5 := .inl n5
  have n6 : C'.env.scope.names[6]? = some (Str.ofString "figures", NameKind.cell) := by rw [K.scope]; rfl
  have w6 : Slot' C' (Str.ofString "figures") 6 := .inr ⟨n6, K.cell _ (by kernel_rfl)⟩
  have n7 : C'.env.scope.names[7]? = some (Str.ofString "pads", NameKind.local) := by rw [K.scope]; rfl
  have w7 : Slot' C' (Str.ofString "pads") 7 := .inl n7
  have n8 : C'.env.scope.names[8]? = some (Str.ofString "pattern", NameKind.local) := by rw [K.scope]; rfl
  have w8 : Slot' C' (Str.ofString "pattern") 8 := .inl n8
  have n9 : C'.env.scope.names[9]? = some (Str.ofString "written", NameKind.local) := by rw [K.scope]; rfl
  have w9 : Slot' C' (Str.ofString "written") 9 := .inl n9
  have n10 : C'.env.scope.names[10]? = some (Str.ofString "star", NameKind.cell) := by rw [K.scope]; rfl
  have w10 : Slot' C' (Str.ofString "star") 10 := .inr ⟨n10, K.cell _ (by kernel_rfl)⟩
  have n11 : C'.env.scope.names[11]? = some (Str.ofString "single", NameKind.local) := by rw [K.scope]; rfl
  have w11 : Slot' C' (Str.ofString "single") 11 := .inl n11
  have n12 : C'.env.scope.names[12]? = some (Str.ofString "bare", NameKind.local) := by rw [K.scope]; rfl
  have w12 : Slot' C' (Str.ofString "bare") 12 := .inl n12
  have n13 : C'.env.scope.names[13]? = some (Str.ofString "back", NameKind.local) := by rw [K.scope]; rfl
  have w13 : Slot' C' (Str.ofString "back") 13 := .inl n13
  have n14 : C'.env.scope.names[14]? = some (Str.ofString "full", NameKind.local) := by rw [K.scope]; rfl
  have w14 : Slot' C' (Str.ofString "full") 14 := .inl n14
  have n15 : C'.env.scope.names[15]? = some (Str.ofString "blank", NameKind.local) := by rw [K.scope]; rfl
  have w15 : Slot' C' (Str.ofString "blank") 15 := .inl n15
  have g16 : C'.env.kindOf (Str.ofString "_law_alphabet") = some .globalImplicit := kind_is K.scope (by kernel_rfl)
  have g17 : C'.env.kindOf (Str.ofString "_law_octets") = some .globalImplicit := kind_is K.scope (by kernel_rfl)
  have g18 : C'.env.kindOf (Str.ofString "_law_figures") = some .globalImplicit := kind_is K.scope (by kernel_rfl)
  have g19 : C'.env.kindOf (Str.ofString "len") = some .globalImplicit := kind_is K.scope (by kernel_rfl)
  have g20 : C'.env.kindOf (Str.ofString "b64encode") = some .globalImplicit := kind_is K.scope (by kernel_rfl)
  have g21 : C'.env.kindOf (Str.ofString "type") = some .globalImplicit := kind_is K.scope (by kernel_rfl)
  have g22 : C'.env.kindOf (Str.ofString "bytes") = some .globalImplicit := kind_is K.scope (by kernel_rfl)
  have g23 : C'.env.kindOf (Str.ofString "range") = some .globalImplicit := kind_is K.scope (by kernel_rfl)
  have g24 : C'.env.kindOf (Str.ofString "_law_read") = some .globalImplicit := kind_is K.scope (by kernel_rfl)
  have g25 : C'.env.kindOf (Str.ofString "translate") = some .globalImplicit := kind_is K.scope (by kernel_rfl)
  have g26 : C'.env.kindOf (Str.ofString "_law_decoded") = some .globalImplicit := kind_is K.scope (by kernel_rfl)
  have g27 : C'.env.kindOf (Str.ofString "_law_due") = some .globalImplicit := kind_is K.scope (by kernel_rfl)
  have g28 : C'.env.kindOf (Str.ofString "str") = some .globalImplicit := kind_is K.scope (by kernel_rfl)
  have O' := K.ok
  have F' := K.kf F
  have hin := inter_of O'
  have b16 := is_F O' g16 F'.f27 (by decide)
  have q16 := kp_K O' F'.f27.keep
  have b17 := is_F O' g17 F'.f28 (by decide)
  have q17 := kp_K O' F'.f28.keep
  have b18 := is_F O' g18 F'.f29 (by decide)
  have q18 := kp_K O' F'.f29.keep
  have b19 := is_len O' F' g19
  have b20 := is_F O' g20 F'.f24 (by decide)
  have q20 := kp_K O' F'.f24.keep
  have b21 := is_type O' F' g21
  have b22 := is_bytes O' F' g22
  have b23 := is_range O' F' g23
  have b24 := is_F O' g24 F'.f31 (by decide)
  have q24 := kp_K O' F'.f31.keep
  have b25 := is_F O' g25 F'.f4 (by decide)
  have q25 := kp_K O' F'.f4.keep
  have b26 := is_F O' g26 F'.f33 (by decide)
  have q26 := kp_K O' F'.f33.keep
  have b27 := is_F O' g27 F'.f32 (by decide)
  have q27 := kp_K O' F'.f32.keep
  have b28 := is_str O' F' g28
  have hfl := figF_len row
  have l0 : (Str.ofString "").cps.toList = [] := by decide +kernel
  have hcA := K.cell (Str.ofString "alphabet") (by kernel_rfl)
  have hsgl : sg.length ≤ (figF row).length := by rw [hsg]; exact (singB_len _ _ _).1
  have hsg64 : ∀ f ∈ sg, f < 64 := fun f hf => figF_lt row f (singB_mem _ _ _ f (hsg ▸ hf))
  show Exs C' (_ :: _) _ _ _
  refine exs_letm ?_
  intro M0
  refine exs_cons ?_
  walk_at "v1"
  refine ev_method "str" "str.join" PySem.F.plainAttrs_str PySem.F.slot_str_join PySem.F.type_str_join ?_ (by with_unfolding_all rfl) (by with_unfolding_all rfl) (by intro _; with_unfolding_all rfl) (by simp)
  repeat walk_at "v1"
  refine ⟨rfl, ?_⟩
  repeat walk_at "v1"
  refine ev_listcomp (x := Str.ofString "figure") (pe := fun _ => true) (fe := feCh m1 m2) O' ⟨by decide, rfl, by decide, by decide, ?_⟩ ?_
  · intro y hy hf
    rcases List.mem_cons.mp hy with rfl | hy
    · cases hf
    rcases List.mem_cons.mp hy with rfl | hy
    · cases hf
    rcases List.mem_cons.mp hy with rfl | hy
    · exact hcA
    · cases hy
  repeat walk_at "v1"
  refine ⟨sg.map fun n : Nat => .int (n : Int), ⟨sb, rfl, .inl hsb⟩, by rw [List.length_map]; omega, ?_, ?_⟩
  · intro env' hh z hz ce
    obtain ⟨n, hn, rfl⟩ := List.mem_map.mp hz
    have hn64 := hsg64 n hn
    refine ⟨rfl, fun _ => ?_⟩
    obtain ⟨hv1, m3, wv, hns, hmx, hab⟩ := ce.var
    obtain ⟨s1, cs, ws, s2, s3, s4⟩ := ce.cell (Str.ofString "alphabet") 2 _ (by decide) (by decide) n2 rfl
    exact pe_sub (pe_cell ce.kind s1 s2 s3 s4) (pe_local ce.kind hv1 hns hmx hab) (pop_str (y := abc62 ++ [m1, m2]) (by omega) (by rw [al_len]; omega) (by rw [al_len]; decide))
  intro D hD
  rw [chars_items]
  repeat walk_at "v1"
  rw [l0]
  refine ca_join (ys := sg.map fun v => [chF m1 m2 v]) set_self (by rw [chars_len]; omega) ?_
  rw [flat1]
  have hD64 := tabOk_set (po := .list ((sg.map fun v => [chF m1 m2 v]).map PV.str)) hD h64
  have hfb1 : (H.set D (.list ((sg.map fun v => [chF m1 m2 v]).map PV.str))) fb = some (.list ((figF row).map fun n : Nat => .int (n : Int))) := set_old hD hfb
  have hsb1 : (H.set D (.list ((sg.map fun v => [chF m1 m2 v]).map PV.str))) sb = some (.list (sg.map fun n : Nat => .int (n : Int))) := set_old hD hsb
  generalize (H.set D (.list ((sg.map fun v => [chF m1 m2 v]).map PV.str))) = H1 at *
  show Sq C' _ _ .next ((_ : Loc).set 12 (some (.str (wr m1 m2 sg)))) _
  have hpl : (padL (figF row)).length ≤ 3 := by unfold padL padN; rw [List.length_replicate]; omega
  have hpat : (wr m1 m2 (figF row) ++ padL (figF row)).length ≤ 30 := by rw [List.length_append, wr_len]; omega
  have hasc := wr_ascii M (figF_lt row) (padN (figF row))
  have hA := alph_wr M.h1 M.h2 M.h12 (figF_lt row) (padN (figF row))
  have hne : u8 (wr m1 m2 (figF row) ++ padL (figF row)) ≠ [] := by
    intro q
    have := congrArg List.length q
    rw [u8_len, List.length_append, wr_len, List.length_nil] at this
    omega
  obtain ⟨st', hst, hread⟩ := read_back hA
  rw [sq_wr M.h12 _ (fun q => absurd (List.eq_of_mem_replicate q) (by decide)) (figF row) false (figF_lt row), ← hsg] at hread
  have hbl := body_len hA
  repeat walk_at "v1"
  refine ev_method "bytes" "bytes.decode" FB.plainAttrs_bytes FB.slot_bytes_decode FB.type_bytes_decode ?_ (by with_unfolding_all rfl) (by with_unfolding_all rfl) (by intro _; with_unfolding_all rfl) (by simp)
  repeat walk_at "v1"
  refine ⟨rfl, ?_⟩
  repeat walk_at "v1"
  rw [show (Str.ofString "ascii").cps.toList = asciiName from by decide +kernel]
  refine ca_decode (b := u8 (wr m1 m2 (figF row) ++ padL (figF row))) (fun d hd => ?_) hne (by rw [u8_len]; omega) ?_
  · obtain ⟨c, hc, rfl⟩ := List.mem_map.mp hd
    have := hasc c hc
    simp
    omega
  rw [dec_nat (l := wr m1 m2 (figF row) ++ padL (figF row)) hasc]
  repeat walk_at "v1"
  refine spec_translate O' F' (by omega) (pat := wr m1 m2 (figF row) ++ padL (figF row)) (goodPat hA (marks_lt m1 M.h1).1 (marks_lt m2 M.h2).1) (by omega) (by
    have : (bodyOf (trAll (wr m1 m2 (figF row) ++ padL (figF row)))).length ≤ 8 * (wr m1 m2 (figF row) ++ padL (figF row)).length + 1 := hbl
    omega) hD64 fun H2 hE2 => ?_
  have h642 := hE2.2.1 hD64
  have hfb2 := hE2.1 _ _ hfb64 hfb1
  have hsb2 := hE2.1 _ _ hsb64 hsb1
  repeat walk_at "v1"
  have hback : (wr m1 m2 sg ++ padL (figF row)).length ≤ 30 := by rw [List.length_append, wr_len] at *; omega
  refine spec_read O' F' (by omega) (body := bodyOf (trAll (wr m1 m2 (figF row) ++ padL (figF row)))) (signs := wr m1 m2 sg ++ padL (figF row)) (by
    have : (bodyOf (trAll (wr m1 m2 (figF row) ++ padL (figF row)))).length ≤ 8 * (wr m1 m2 (figF row) ++ padL (figF row)).length + 1 := hbl
    omega) hread hst (by omega) fun H3 hE3 => ?_
  have h643 := hE3.2.1 h642
  have hfb3 := hE3.1 _ _ hfb64 hfb2
  have hsb3 := hE3.1 _ _ hsb64 hsb2
  repeat walk_at "vx"
  refine sq_next ?_
  refine exs_cons ?_
  refine ex_if_cut false ?_ ?_
  · repeat walk_at "v1"
    refine bin_addS (by rw [← List.length_append]; omega) ?_
    repeat walk_at "v1"
    exact ⟨by simp, rfl⟩
  · refine ite_F ?_
    refine exs_nil ?_
    refine sq_next ?_
    exact h H3 hfb3 hsb3 h643
noncomputable def TxtOrB (v : PV) : Prop := (∃ l, v = .str l) ∨ ∃ b, v = .bytes b
theorem cmp_ne_self {C : Cx} {m : Loc} {H : PH} {QB : Bool → PH → Prop} {v : PV} (hv : TxtOrB v) (h : QB false H) : Cmp C m .NotEq v v H QB := by
  rcases hv with ⟨l, rfl⟩ | ⟨b, rfl⟩
  · refine cmp_neS ?_
    have : (l != l) = false := by simp
    rw [this]; exact h
  · refine cmp_neB ?_
    have : (b != b) = false := by simp
    rw [this]; exact h
theorem due_form (fs : List Nat) (filled : Bool) : TxtOrB (dueF fs filled) := by
  unfold dueF
  split
  · exact .inl ⟨_, rfl⟩
  · split
    · exact .inl ⟨_, rfl⟩
    · exact .inr ⟨_, rfl⟩
set_option maxHeartbeats 8000000 in
theorem law_F {C' : Cx} (K : LawK C') {a0 a1 a4 a8 a10 a9 : Option PV} {fb sb : Addr} {row : List UInt8} {m1 m2 : Nat} (M : Mk m1 m2) {H : PH} {QF : FL → Loc → PH → Prop} (hrow0 : 3 ≤ row.length) (hrow : row.length ≤ 14) {sg : List Nat} (hsg : sg = singB (starI m1 m2) false (figF row))
    (hfb : H fb = some (.list ((figF row).map fun n : Nat => .int (n : Int)))) (hfb64 : fb ≠ 64) (hsb : H sb = some (.list (sg.map fun n : Nat => .int (n : Int)))) (hsb64 : sb ≠ 64) (h64 : TabOk H)
    (h : ∀ m' H', TabOk H' → QF (.ret (.bool true)) m' H') :
    Exs C' ((bodyN 34).drop 15) [a0, a1, some (.str (abc62 ++ [m1, m2])), some (.str [m1, m2]), a4, some (.bytes row), some (.ref fb), some (.str (padL (figF row))), a8, a9, a10, some (.ref sb), some (.str (wr m1 m2 sg)), some (.str (wr m1 m2 sg ++ padL (figF row))), none, none, none, none, none, none, none, none, none, none, none, none, none, none, none] H QF := by
  have F := K.F
  have X := K.X
  have hdep := K.depth
  obtain ⟨L', fL, cdL, henv⟩ := K.env
  obtain ⟨mean, TB⟩ := K.top
  have n0 : C'.env.scope.names[0]? = some (Str.ofString "script", NameKind.local) := by rw [K.scope]; rfl
  have w0 : Slot' C' (Str.ofString "script") 0 := .inl n0
  have n1 : C'.env.scope.names[1]? = some (Str.ofString "numbers", NameKind.local) := by rw [K.scope]; rfl
  have w1 : Slot' C' (Str.ofString "numbers") 1 := .inl n1
  have n2 : C'.env.scope.names[2]? = some (Str.ofString "alphabet", NameKind.cell) := by rw [K.scope]; rfl
  have w2 : Slot' C' (Str.ofString "alphabet") 2 := .inr ⟨n2, K.cell _ (by kernel_rfl)⟩
  have n3 : C'.env.scope.names[3]? = some (Str.ofString "marks", NameKind.local) := by rw [K.scope]; rfl
  have w3 : Slot' C' (Str.ofString "marks") 3 := .inl n3
  have n4 : C'.env.scope.names[4]? = some (Str.ofString "drawn", NameKind.local) := by rw [K.scope]; rfl
  have w4 : Slot' C' (Str.ofString "drawn") 4 := .inl n4
  have n5 : C'.env.scope.names[5]? = some (Str.ofString "row", NameKind.local) := by rw [K.scope]; rfl
  have w5 : Slot' C' (Str.ofString "row") 5 := .inl n5
  have n6 : C'.env.scope.names[6]? = some (Str.ofString "figures", NameKind.cell) := by rw [K.scope]; rfl
  have w6 : Slot' C' (Str.ofString "figures") 6 := .inr ⟨n6, K.cell _ (by kernel_rfl)⟩
  have n7 : C'.env.scope.names[7]? = some (Str.ofString "pads", NameKind.local) := by rw [K.scope]; rfl
  have w7 : Slot' C' (Str.ofString "pads") 7 := .inl n7
  have n8 : C'.env.scope.names[8]? = some (Str.ofString "pattern", NameKind.local) := by rw [K.scope]; rfl
  have w8 : Slot' C' (Str.ofString "pattern") 8 := .inl n8
  have n9 : C'.env.scope.names[9]? = some (Str.ofString "written", NameKind.local) := by rw [K.scope]; rfl
  have w9 : Slot' C' (Str.ofString "written") 9 := .inl n9
  have n10 : C'.env.scope.names[10]? = some (Str.ofString "star", NameKind.cell) := by rw [K.scope]; rfl
  have w10 : Slot' C' (Str.ofString "star") 10 := .inr ⟨n10, K.cell _ (by kernel_rfl)⟩
  have n11 : C'.env.scope.names[11]? = some (Str.ofString "single", NameKind.local) := by rw [K.scope]; rfl
  have w11 : Slot' C' (Str.ofString "single") 11 := .inl n11
  have n12 : C'.env.scope.names[12]? = some (Str.ofString "bare", NameKind.local) := by rw [K.scope]; rfl
  have w12 : Slot' C' (Str.ofString "bare") 12 := .inl n12
  have n13 : C'.env.scope.names[13]? = some (Str.ofString "back", NameKind.local) := by rw [K.scope]; rfl
  have w13 : Slot' C' (Str.ofString "back") 13 := .inl n13
  have n14 : C'.env.scope.names[14]? = some (Str.ofString "full", NameKind.local) := by rw [K.scope]; rfl
  have w14 : Slot' C' (Str.ofString "full") 14 := .inl n14
  have n15 : C'.env.scope.names[15]? = some (Str.ofString "blank", NameKind.local) := by rw [K.scope]; rfl
  have w15 : Slot' C' (Str.ofString "blank") 15 := .inl n15
  have g16 : C'.env.kindOf (Str.ofString "_law_alphabet") = some .globalImplicit := kind_is K.scope (by kernel_rfl)
  have g17 : C'.env.kindOf (Str.ofString "_law_octets") = some .globalImplicit := kind_is K.scope (by kernel_rfl)
  have g18 : C'.env.kindOf (Str.ofString "_law_figures") = some .globalImplicit := kind_is K.scope (by kernel_rfl)
  have g19 : C'.env.kindOf (Str.ofString "len") = some .globalImplicit := kind_is K.scope (by kernel_rfl)
  have g20 : C'.env.kindOf (Str.ofString "b64encode") = some .globalImplicit := kind_is K.scope (by kernel_rfl)
  have g21 : C'.env.kindOf (Str.ofString "type") = some .globalImplicit := kind_is K.scope (by kernel_rfl)
  have g22 : C'.env.kindOf (Str.ofString "bytes") = some .globalImplicit := kind_is K.scope (by kernel_rfl)
  have g23 : C'.env.kindOf (Str.ofString "range") = some .globalImplicit := kind_is K.scope (by kernel_rfl)
  have g24 : C'.env.kindOf (Str.ofString "_law_read") = some .globalImplicit := kind_is K.scope (by kernel_rfl)
  have g25 : C'.env.kindOf (Str.ofString "translate") = some .globalImplicit := kind_is K.scope (by kernel_rfl)
  have g26 : C'.env.kindOf (Str.ofString "_law_decoded") = some .globalImplicit := kind_is K.scope (by kernel_rfl)
  have g27 : C'.env.kindOf (Str.ofString "_law_due") = some .globalImplicit := kind_is K.scope (by kernel_rfl)
  have g28 : C'.env.kindOf (Str.ofString "str") = some .globalImplicit := kind_is K.scope (by kernel_rfl)
  have O' := K.ok
  have F' := K.kf F
  have hin := inter_of O'
  have b16 := is_F O' g16 F'.f27 (by decide)
  have q16 := kp_K O' F'.f27.keep
  have b17 := is_F O' g17 F'.f28 (by decide)
  have q17 := kp_K O' F'.f28.keep
  have b18 := is_F O' g18 F'.f29 (by decide)
  have q18 := kp_K O' F'.f29.keep
  have b19 := is_len O' F' g19
  have b20 := is_F O' g20 F'.f24 (by decide)
  have q20 := kp_K O' F'.f24.keep
  have b21 := is_type O' F' g21
  have b22 := is_bytes O' F' g22
  have b23 := is_range O' F' g23
  have b24 := is_F O' g24 F'.f31 (by decide)
  have q24 := kp_K O' F'.f31.keep
  have b25 := is_F O' g25 F'.f4 (by decide)
  have q25 := kp_K O' F'.f4.keep
  have b26 := is_F O' g26 F'.f33 (by decide)
  have q26 := kp_K O' F'.f33.keep
  have b27 := is_F O' g27 F'.f32 (by decide)
  have q27 := kp_K O' F'.f32.keep
  have b28 := is_str O' F' g28
  have hfl := figF_len row
  have hsgl : sg.length ≤ (figF row).length := by rw [hsg]; exact (singB_len _ _ _).1
  have hsg64 : ∀ f ∈ sg, f < 64 := fun f hf => figF_lt row f (singB_mem _ _ _ f (hsg ▸ hf))
  have l61 : (Str.ofString "=").cps.toList = [61] := by decide +kernel
  have hpl : (padL (figF row)).length ≤ 3 := by unfold padL padN; rw [List.length_replicate]; omega
  have hpl2 : (padL sg).length ≤ 3 := by unfold padL padN; rw [List.length_replicate]; omega
  have hback : (wr m1 m2 sg ++ padL (figF row)).length ≤ 30 := by rw [List.length_append, wr_len]; omega
  have hfull : (wr m1 m2 sg ++ padL sg).length ≤ 30 := by rw [List.length_append, wr_len]; omega
  have hbare : (wr m1 m2 sg).length ≤ 30 := by rw [wr_len]; omega
  have ascB := wr_ascii M hsg64 0
  have ascB : ∀ c ∈ wr m1 m2 sg, c < 128 := fun c hc => wr_ascii M hsg64 0 c (List.mem_append_left _ hc)
  have ascF : ∀ c ∈ wr m1 m2 sg ++ padL sg, c < 128 := wr_ascii M hsg64 (padN sg)
  have ascK : ∀ c ∈ wr m1 m2 sg ++ padL (figF row), c < 128 := wr_ascii M hsg64 (padN (figF row))
  have ascM : ∀ c ∈ [m1, m2], c < 128 := fun c hc => by
    have hc' : c = m1 ∨ c = m2 := by simpa using hc
    rcases hc' with rfl | rfl
    · exact (marks_lt _ M.h1).1
    · exact (marks_lt _ M.h2).1
  have AM : Asc (.str [m1, m2]) (u8 [m1, m2]) := .s _ (by show 2 ≤ 100; decide) ascM
  have AMb : Asc (.bytes (u8 [m1, m2])) (u8 [m1, m2]) := .b _ (by show 2 ≤ 100; decide)
  show Exs C' (_ :: _) _ _ _
  refine exs_letm ?_
  intro M0
  refine exs_cons ?_
  repeat walk_at "v1"
  refine ca_len_str (by omega) ?_
  repeat walk_at "v1"
  refine ca_len_str (by omega) ?_
  repeat walk_at "v1"
  refine slc_str (by omega) ?_
  have hcut : slc (wr m1 m2 sg ++ padL (figF row)) none (some (((wr m1 m2 sg ++ padL (figF row)).length : Int) - ((padL (figF row)).length : Int))) = wr m1 m2 sg := by
    have e : (((wr m1 m2 sg ++ padL (figF row)).length : Int) - ((padL (figF row)).length : Int)) = ((wr m1 m2 sg).length : Nat) := by rw [List.length_append]; omega
    rw [e, slc_to, List.take_left]
  rw [hcut]
  repeat walk_at "v1"
  refine ca_len_list hsb (by rw [List.length_map]; omega) ?_
  rw [List.length_map]
  repeat walk_at "v1"
  refine bin_mod (j := 4) (by decide) ?_
  rw [l61]
  obtain ⟨p1, p2, p3⟩ := neg_mod4 sg.length
  refine bin_mulS p2 (by omega) ?_
  rw [p1]
  refine bin_addS (by rw [List.length_replicate]; omega) ?_
  show Sq C' _ _ .next ((_ : Loc).set 14 (some (.str (wr m1 m2 sg ++ padL sg)))) _
  repeat walk_at "vx"
  refine sq_next ?_
  refine exs_cons ?_
  repeat walk_at "v1"
  refine spec_decoded O' F' X (by omega) K.base TB K.outer K.units (row := u8 (wr m1 m2 sg)) (alt := u8 [m1, m2]) (.s _ (by omega) ascB) AM rfl h64 fun H1 hE1 => ?_
  rw [dec_bare M.h1 M.h2 M.h12 hsg64]
  have h641 := hE1.2.1 h64
  have hsb1 := hE1.1 _ _ hsb64 hsb
  have hfb1 := hE1.1 _ _ hfb64 hfb
  repeat walk_at "v1"
  refine spec_due O' F' (by omega) hsb1 (by omega) hsb64 fun H2 hE2 => ?_
  have h642 := hE2.2.1 h641
  have hsb2 := hE2.1 _ _ hsb64 hsb1
  have hfb2 := hE2.1 _ _ hfb64 hfb1
  repeat walk_at "v1"
  refine cmp_ne_self (due_form _ _) ?_
  refine ite_F ?_
  refine exs_nil ?_
  refine sq_next ?_
  refine exs_cons ?_
  repeat walk_at "v1"
  refine ev_method "str" "str.encode" PySem.F.plainAttrs_str slot_str_encode type_str_encode ?_ (by with_unfolding_all rfl) (by with_unfolding_all rfl) (by intro _; with_unfolding_all rfl) (by simp)
  repeat walk_at "v1"
  refine ⟨rfl, ?_⟩
  repeat walk_at "v1"
  rw [show (Str.ofString "ascii").cps.toList = asciiName from by decide +kernel]
  refine ca_encode (x := wr m1 m2 sg ++ padL sg) ascF (by omega) ?_
  repeat walk_at "v1"
  refine spec_decoded O' F' X (by omega) K.base TB K.outer K.units (row := u8 (wr m1 m2 sg ++ padL sg)) (alt := u8 [m1, m2]) (.b _ (by rw [List.length_map]; omega)) AM rfl h642 fun H3 hE3 => ?_
  rw [show decV false (u8 (wr m1 m2 sg ++ padL sg)) (u8 [m1, m2]) = dueF sg true from dec_full M.h1 M.h2 M.h12 hsg64 rfl]
  have h643 := hE3.2.1 h642
  have hsb3 := hE3.1 _ _ hsb64 hsb2
  have hfb3 := hE3.1 _ _ hfb64 hfb2
  repeat walk_at "v1"
  refine spec_due O' F' (by omega) hsb3 (by omega) hsb64 fun H4 hE4 => ?_
  have h644 := hE4.2.1 h643
  have hsb4 := hE4.1 _ _ hsb64 hsb3
  have hfb4 := hE4.1 _ _ hfb64 hfb3
  repeat walk_at "v1"
  refine cmp_ne_self (due_form _ _) ?_
  refine ite_F ?_
  refine exs_nil ?_
  refine sq_next ?_
  refine exs_cons ?_
  repeat walk_at "v1"
  refine ev_method "str" "str.encode" PySem.F.plainAttrs_str slot_str_encode type_str_encode ?_ (by with_unfolding_all rfl) (by with_unfolding_all rfl) (by intro _; with_unfolding_all rfl) (by simp)
  repeat walk_at "v1"
  refine ⟨rfl, ?_⟩
  repeat walk_at "v1"
  rw [show (Str.ofString "ascii").cps.toList = asciiName from by decide +kernel]
  refine ca_encode (x := [m1, m2]) ascM (by show 2 ≤ _; decide) ?_
  repeat walk_at "v1"
  refine spec_decoded O' F' X (by omega) K.base TB K.outer K.units (row := u8 (wr m1 m2 sg ++ padL sg)) (alt := u8 [m1, m2]) (.s _ (by omega) ascF) AMb rfl h644 fun H5 hE5 => ?_
  rw [show decV false (u8 (wr m1 m2 sg ++ padL sg)) (u8 [m1, m2]) = dueF sg true from dec_full M.h1 M.h2 M.h12 hsg64 rfl]
  have h645 := hE5.2.1 h644
  have hsb5 := hE5.1 _ _ hsb64 hsb4
  have hfb5 := hE5.1 _ _ hfb64 hfb4
  repeat walk_at "v1"
  refine spec_due O' F' (by omega) hsb5 (by omega) hsb64 fun H6 hE6 => ?_
  have h646 := hE6.2.1 h645
  have hsb6 := hE6.1 _ _ hsb64 hsb5
  have hfb6 := hE6.1 _ _ hfb64 hfb5
  repeat walk_at "v1"
  refine cmp_ne_self (due_form _ _) ?_
  refine ite_F ?_
  refine exs_nil ?_
  refine sq_next ?_
  refine exs_cons ?_
  repeat walk_at "v1"
  refine ca_len_list hsb6 (by rw [List.length_map]; omega) ?_
  rw [List.length_map]
  repeat walk_at "v1"
  refine ca_len_list hfb6 (by rw [List.length_map]; omega) ?_
  rw [List.length_map]
  repeat walk_at "v1"
  refine ite_dec (fun hlt => ?_) (fun hlt => ?_)
  · repeat walk_at "v1"
    exact h _ H6 h646
  · have heq : sg = figF row := by
      rw [hsg]
      refine (singB_len _ _ _).2 ?_
      rw [← hsg]
      omega
    subst heq
    refine exs_nil ?_
    refine sq_next ?_
    refine exs_cons ?_
    repeat walk_at "v1"
    obtain ⟨f, r, hfr⟩ : ∃ f r, figF row = f :: r := by
      cases hq : figF row with
      | nil => rw [hq] at hfl; simp at hfl; omega
      | cons f r => exact ⟨f, r, rfl⟩
    have hbk : wr m1 m2 (figF row) ++ padL (figF row) = chF m1 m2 f :: (wr m1 m2 r ++ padL (figF row)) := by
      conv => lhs; arg 1; rw [hfr]
      rfl
    have hcut1 : slc (wr m1 m2 (figF row) ++ padL (figF row)) none (some 1) = [chF m1 m2 f] := by
      show slc _ none (some ((1 : Nat) : Int)) = _
      rw [slc_to, hbk]
      rfl
    have hcut2 : slc (wr m1 m2 (figF row) ++ padL (figF row)) (some 1) none = wr m1 m2 r ++ padL (figF row) := by
      show slc _ (some ((1 : Nat) : Int)) none = _
      rw [slc_from, hbk]
      rfl
    have hrl : (wr m1 m2 r ++ padL (figF row)).length ≤ 29 := by
      have := congrArg List.length hbk
      rw [List.length_cons] at this
      omega
    refine slc_str (by omega) ?_
    rw [hcut1]
    repeat walk_at "v1"
    rw [show (Str.ofString " ").cps.toList = [32] from by decide +kernel]
    refine bin_addS (by show 2 ≤ _; decide) ?_
    repeat walk_at "v1"
    refine slc_str (by omega) ?_
    rw [hcut2]
    have hbl : ([chF m1 m2 f] ++ [32]).length = 2 := rfl
    refine bin_addS (by rw [hbl]; omega) ?_
    have hbll : ([chF m1 m2 f] ++ [32] ++ (wr m1 m2 r ++ padL (figF row))).length ≤ 31 := by rw [List.length_append, hbl]; omega
    have hblA : ∀ c ∈ [chF m1 m2 f] ++ [32] ++ (wr m1 m2 r ++ padL (figF row)), c < 128 := by
      intro c hc
      rcases List.mem_append.mp hc with q | q
      · rcases List.mem_append.mp q with q | q
        · exact ascK c (by rw [hbk]; rw [List.mem_singleton.mp q]; exact .head _)
        · rw [List.mem_singleton.mp q]; decide
      · exact ascK c (by rw [hbk]; exact .tail _ q)
    have dB1 : decV false (u8 ([chF m1 m2 f] ++ [32] ++ (wr m1 m2 r ++ padL (figF row)))) (u8 [m1, m2]) = .bytes row := dec_blankL M.h1 M.h2 M.h12 hfr
    obtain ⟨msg, dB2⟩ : ∃ msg, decV true (u8 ([chF m1 m2 f] ++ [32] ++ (wr m1 m2 r ++ padL (figF row)))) (u8 [m1, m2]) = .str msg := dec_blankS M.h1 M.h2 M.h12 hfr (padN (figF row))
    generalize [chF m1 m2 f] ++ [32] ++ (wr m1 m2 r ++ padL (figF row)) = blank at *
    repeat walk_at "v1"
    refine spec_decoded O' F' X (by omega) K.base TB K.outer K.units (row := u8 (wr m1 m2 (figF row) ++ padL (figF row))) (alt := u8 [m1, m2]) (.s _ (by omega) ascK) AM rfl h646 fun H7 hE7 => ?_
    rw [show decV true (u8 (wr m1 m2 (figF row) ++ padL (figF row))) (u8 [m1, m2]) = .bytes row from dec_strict M.h1 M.h2 M.h12 row]
    have h647 := hE7.2.1 h646
    repeat walk_at "v1"
    refine ite_bF (by simp) ?_
    repeat walk_at "v1"
    refine spec_decoded O' F' X (by omega) K.base TB K.outer K.units (row := u8 blank) (alt := u8 [m1, m2]) (.s _ (by omega) hblA) AM rfl h647 fun H8 hE8 => ?_
    rw [dB1]
    have h648 := hE8.2.1 h647
    repeat walk_at "v1"
    refine ite_bF (by simp) ?_
    repeat walk_at "v1"
    refine spec_decoded O' F' X (by omega) K.base TB K.outer K.units (row := u8 blank) (alt := u8 [m1, m2]) (.s _ (by omega) hblA) AM rfl h648 fun H9 hE9 => ?_
    rw [dB2]
    have h649 := hE9.2.1 h648
    repeat walk_at "v1"
    exact h _ H9 h649
theorem spec_law {C' : Cx} (K : LawK C') {ns : List Int} {la : Addr} {H : PH} (hns : ns.length ≤ 1000) (hla : LAt C' H la (ns.map .int)) (h64 : TabOk H) :
    Exs C' (bodyN 34) [some (.ref la), none, none, none, none, none, none, none, none, none, none, none, none, none, none, none, none, none, none, none, none, none, none, none, none, none, none, none, none] H (fun f m' H' => f = .ret (.bool true) ∧ TabOk H') := by
  refine law_A K hns hla h64 fun nb H1 hnb hnb64 h641 => ?_
  refine law_B K hnb hnb64 h641 fun fb x4 H2 hfb hfb64 h642 => ?_
  obtain ⟨hr0, hr1⟩ := row_len ns
  obtain ⟨m1, m2, hp, g1, g2, g12⟩ := pairF_spec ((numsF ns).headD 0)
  have M : Mk m1 m2 := ⟨g1, g2, g12⟩
  unfold alphaF
  rw [hp]
  refine law_C K M hr1 hfb hfb64 h642 fun H3 hfb3 h643 => ?_
  refine law_D K M hr0 hr1 hfb3 hfb64 h643 fun a10 sb H4 hfb4 hsb4 hsb64 h644 => ?_
  refine law_E K M hr0 hr1 rfl hfb4 hfb64 hsb4 hsb64 h644 fun H5 hfb5 hsb5 h645 => ?_
  exact law_F K M hr0 hr1 rfl hfb5 hfb64 hsb5 hsb64 h645 fun m' H' h6 => ⟨rfl, h6⟩
theorem ints_abs {vs : List Value} {ns : List Int} (h : IntsAre vs ns) : vs.map abs = ns.map PV.int := by
  induction h with
  | nil => rfl
  | cons n t _ ih => rw [List.map_cons, List.map_cons, ih]; rfl
theorem law_end {w : World} {KK : Frag} (kf : KF KK) (kx : KX KK) {s₁ : Shared} {mean : ExcName → Option Value} {mg mb : Str → Option Value} {p : Program} {loose : List Str} {L fL la : Addr} {cd : Value} {h₁ g : Heap} {tk : Nat} {news cells : List (Addr × Obj)} {m cm : Str → Option Value} {arr : Array Value} {ns : List Int}
    {Q' : Flow → Shared → Prop} {E' : Value → Shared → Prop}
    (XK : KK.In g) (T : Top p loose mean mg mb g) (B : Below callerA g [] g) (F : Fr g L h₁ m) (hL : g.IsList la arr) (hI : IntsAre arr.toList ns) (hlen : ns.length ≤ 1000) (N : News g L h₁ news)
    (hm : m (Str.ofString "script") = some (.ref la)) (hc : CellsAre cm (cellsFrom (L + 1) (scopeN 34).names []) cells) (hcn : ∀ q ∈ cells, q ∈ news) (h64 : (64, tabObj #[]) ∈ news) (hL64 : 64 < L)
    (hE : PassesOwn (model pw w) (callerA.deeper (envOfC (Str.ofString "law") (scopeN 34) L fL cd)) (envOfC (Str.ofString "law") (scopeN 34) L fL cd) E')
    (hQ : ∀ h' tk' mr news' ps, Fr g L h' mr → News g L h' news' → (64, tabObj ps) ∈ news' → Q' (.ret (.bool true)) { s₁ with heap := h', toks := tk' }) :
    wpAny (model pw w) (callerA.deeper (envOfC (Str.ofString "law") (scopeN 34) L fL cd)) (execs (bodyN 34) (envOfC (Str.ofString "law") (scopeN 34) L fL cd)) Q' E' { s₁ with heap := h₁, toks := tk } := by
  let env : Env := envOfC (Str.ofString "law") (scopeN 34) L fL cd
  let C : Cx := { g := { prog := pw, w := w, K := KK, p := p, loose := loose, mg := mg, mb := mb }, A := callerA.deeper env, env := env, E := E', h₀ := g, s₀ := s₁, A₀ := callerA, base := g, outer := [] }
  have hpw := cf_apart (scopeN 34).names (L + 1) [] (fun _ hp => nomatch hp) .nil
  have O : C.Ok := ⟨by kernel_rfl, rfl, rfl, rfl, rfl, XK, topRead_of T, hE, fun x y c hx hy => by
    have := pw_inj hpw (mem_of_lookup hx) (mem_of_lookup hy) rfl
    exact congrArg Prod.fst this, (show ((scopeN 34).names.map (·.1)).Nodup from by decide +kernel), rfl, B, T.bmain⟩
  have K : LawK C := ⟨O, kf, kx, rfl, fun x hx => Option.isSome_iff_exists.mp (cellsFrom_some (scopeN 34).names (L + 1) [] (.inl hx)), ⟨L, fL, cd, rfl⟩, XK, ⟨mean, T⟩, rfl, (show (1 + claimMargin) + 1 + 6 < recursionLimit by decide +kernel), (show 4 + 3 + 10 < cLine by decide +kernel)⟩
  let H : PH := fun a => if a = 64 then some (.raw (tabObj #[])) else none
  have hH : ∀ a, a ≠ 64 → H a = none := fun a ha => if_neg ha
  have h64H : TabOk H := ⟨#[], if_pos rfl, trivial⟩
  have S : Sim C [] [some (.ref la), none, none, none, none, none, none, none, none, none, none, none, none, none, none, none, none, none, none, none, none, none, none, none, none, none, none, none, none] H { s₁ with heap := h₁, toks := tk } := by
    have only : ∀ (i : Nat) (v : PV), ([some (.ref la), none, none, none, none, none, none, none, none, none, none, none, none, none, none, none, none, none, none, none, none, none, none, none, none, none, none, none, none] : Loc)[i]? = some (some v) → i = 0 ∧ v = .ref la := by
      intro i v h
      match i, h with
      | 0, h => exact ⟨rfl, by cases h; rfl⟩
      | k + 1, h =>
        exfalso
        have h2 : (List.replicate 28 (none : Option PV))[k]? = some (some v) := h
        have := List.mem_of_getElem? h2
        exact absurd (List.eq_of_mem_replicate this) (by simp)
    have n0 : (scopeN 34).names[0]? = some (Str.ofString "script", NameKind.local) := by kernel_rfl
    refine ⟨m, news, ⟨h₁, tk, rfl⟩, F, N, (fun q hq => nomatch hq), fun i x v hi hmi => ?_, fun i x k v hi hk hmi => ?_, fun x c hcx => ?_, fun a po ha => ?_⟩
    · obtain ⟨rfl, rfl⟩ := only i v hmi
      have hi' : (scopeN 34).names[0]? = some (x, NameKind.local) := hi
      rw [n0] at hi'
      cases hi'
      exact ⟨.ref la, hm, rfl⟩
    · obtain ⟨rfl, rfl⟩ := only i v hmi
      have hi' : (scopeN 34).names[0]? = some (x, k) := hi
      rw [n0] at hi'
      cases hi'
      rcases hk with hk | hk <;> cases hk
    · have hc' : (x, c) ∈ cellsFrom (L + 1) (scopeN 34).names [] := mem_of_lookup hcx
      obtain ⟨o, h1, h2⟩ := cells_mem hc hc'
      have hge : L + 1 ≤ c := (cf_ge _ _ _ _ hc').resolve_left (fun hp => nomatch hp)
      exact ⟨hH c (fun e => by subst e; exact absurd (Nat.lt_of_lt_of_le hL64 (Nat.le_of_succ_le hge)) (Nat.lt_irrefl _)), (fun q hq => nomatch hq), o, _, hcn _ h1, h2⟩
    · by_cases e : a = 64
      · subst e
        have ha' : some (PO.raw (tabObj #[])) = some po := ha
        cases ha'
        exact ⟨_, h64, rfl⟩
      · rw [hH a e] at ha
        cases ha
  refine spec_law K hlen (.inr ⟨arr, hL, ints_abs hI⟩) h64H [] _ Q' S (fun f m' H' s' S' q => ?_)
  obtain ⟨q1, ps, q2, _⟩ := q
  cases f with
  | ret v =>
    have hv : abs v = .bool true := by
      have : FL.ret (abs v) = FL.ret (.bool true) := q1
      exact FL.ret.inj this
    rw [abs_bool hv]
    obtain ⟨mr, news', S'⟩ := S'
    obtain ⟨h', tk', rfl⟩ := S'.st
    obtain ⟨o, ho, hr⟩ := S'.view _ _ q2
    have hr' : o = tabObj ps := hr
    subst hr'
    exact hQ h' tk' mr news' ps S'.fr S'.nw ho
  | next => exact FL.noConfusion q1
  | brk => exact FL.noConfusion q1
  | cont => exact FL.noConfusion q1
end Mine
end
open PySem PySem.W PySem.Calls PySem.Spec PyProof.Rows
set_option maxRecDepth 100000
set_option linter.unusedVariables false
set_option Elab.async true
namespace Mine
/-! names that the head would give to long copies of its own tables: taken, so that it goes without them -/
theorem hq.tw13621952590756119965 : True := trivial
theorem hq.tw6815287188669290861 : True := trivial
theorem hq.tw3413191660162019370 : True := trivial
theorem hq.tw2446711658860428672 : True := trivial
theorem hq.tw801188883035828325 : True := trivial
theorem hq.tw11747441341411472974 : True := trivial
theorem hq.tw6703137428290144329 : True := trivial
theorem hq.tw7176731725125351652 : True := trivial
theorem hq.tw10010650081863701617 : True := trivial
theorem hq.tw4848108807988124131 : True := trivial
theorem hq.tw8201169055858481340 : True := trivial
theorem hq.tw12057173945504885077 : True := trivial
theorem hq.tw6815685841524224632 : True := trivial
theorem hq.tw12481044172393887954 : True := trivial
theorem hq.tw9659669307319190640 : True := trivial
theorem hq.tw14772127340083367040 : True := trivial
theorem hq.tw18276807595065023739 : True := trivial
theorem hq.tw13976329359730278593 : True := trivial
theorem hq.tw16367165154766714319 : True := trivial
theorem hq.tw10384215637601404327 : True := trivial
theorem hq.tw8635002137240528865 : True := trivial
theorem hq.tw2267212845272169836 : True := trivial
theorem hq.tw10312157954276465073 : True := trivial
theorem hq.tw15730856760783793826 : True := trivial
theorem hq.tw6442286201827202927 : True := trivial
theorem hq.tw9904924192073418881 : True := trivial
theorem hq.tw13502862691939865659 : True := trivial
theorem hq.tw13023949505232002771 : True := trivial
theorem hq.tw13100683107442814338 : True := trivial
theorem hq.tw14779522487330186345 : True := trivial
theorem hq.tw13450832908405550097 : True := trivial
theorem hq.tw17001873142199055178 : True := trivial
theorem hq.tw4288558672954378248 : True := trivial
theorem hq.tw4057580815170638606 : True := trivial
theorem hq.tw4478659559691723179 : True := trivial
theorem hq.tw9133466482286349414 : True := trivial
theorem hq.tw1500719978199872653 : True := trivial
theorem hq.tw2225164010221409227 : True := trivial
theorem hq.tw7106466396363661638 : True := trivial
theorem hq.tw4700772123730980896 : True := trivial
theorem hq.tw3858204857450945017 : True := trivial
theorem hq.tw8914243485484973694 : True := trivial
theorem hq.tw7589107396602480322 : True := trivial
theorem hq.tw4824584372287218620 : True := trivial
theorem hq.tw11791545582610639451 : True := trivial
theorem hq.tw10508880127895558814 : True := trivial
theorem hq.tw1140332349131322219 : True := trivial
theorem hq.tw7124110289175886657 : True := trivial
theorem hq.tw4439803078412725676 : True := trivial
theorem hq.tw2050150026035442444 : True := trivial
theorem hq.tw8410567256526332828 : True := trivial
theorem hq.tw7001449593517186714 : True := trivial
theorem hq.tw5569108009095968475 : True := trivial
theorem hq.tw4282925351594482373 : True := trivial
theorem hq.tw14810766176975304553 : True := trivial
theorem hq.tw16316352616789880349 : True := trivial
theorem hq.tw17225926694474181258 : True := trivial
theorem hq.tw828373266779266601 : True := trivial
theorem hq.tw9011297252748127280 : True := trivial
theorem hq.tw7179472203213589255 : True := trivial
theorem hq.tw7253851005133477568 : True := trivial
theorem hq.tw5131631581878701464 : True := trivial
theorem hq.tw8354039903107843285 : True := trivial
theorem hq.tw2367623169485729044 : True := trivial
theorem hq.tw2996563815162090415 : True := trivial
theorem hq.tw15144068161367542044 : True := trivial
theorem hq.tw10808934275972336993 : True := trivial
theorem hq.tw16003533353896068565 : True := trivial
theorem hq.tw559891337692894694 : True := trivial
theorem hq.tw13029019406344279537 : True := trivial
theorem hq.tw7723358927924880359 : True := trivial
theorem hq.tw11976943583522984290 : True := trivial
theorem hq.tw3858470327796980622 : True := trivial
theorem hq.tw15499493932771899486 : True := trivial
theorem hq.tw11416251703714799670 : True := trivial
theorem hq.tw2260561623700716748 : True := trivial
theorem hq.tw9428742883436320482 : True := trivial
theorem hq.tw1569526789006978644 : True := trivial
theorem hq.tw909575876175560465 : True := trivial
theorem hq.tw15204825319287093212 : True := trivial
theorem hq.tw7795197914602774408 : True := trivial
theorem hq.tw540485975783732659 : True := trivial
theorem hq.tw540608965632813519 : True := trivial
theorem hq.tw6544732300459080682 : True := trivial
theorem hq.tw15450133903358312512 : True := trivial
theorem hq.tw16086767934403656065 : True := trivial
theorem hq.tw12771422461613121140 : True := trivial
theorem hq.tw17210551970155974191 : True := trivial
theorem hq.tw14243319542641745285 : True := trivial
theorem hq.tw10630391147137001860 : True := trivial
theorem hq.tw15944341401679933261 : True := trivial
theorem hq.tw7089316416521786280 : True := trivial
theorem hq.tw8280607470232188737 : True := trivial
theorem hq.tw11085315714167747792 : True := trivial
theorem hq.tw17715228584645818311 : True := trivial
theorem hq.tw12496698030514209297 : True := trivial
theorem hq.tw1874422225548010536 : True := trivial
theorem hq.tw13495405613607610781 : True := trivial
theorem hq.tw9366186876789818649 : True := trivial
theorem hq.tw6336642640299219094 : True := trivial
theorem hq.tw12634840236772402975 : True := trivial
theorem hq.tw7700446733078770829 : True := trivial
theorem hq.tw11895432268523212573 : True := trivial
theorem hq.tw4498321342021566067 : True := trivial
theorem hq.tw15256828576862472125 : True := trivial
theorem hq.tw17313500477962296120 : True := trivial
theorem hq.tw8954724947790862241 : True := trivial
theorem hq.tw8155930678671532831 : True := trivial
theorem hq.tw14587594007023303460 : True := trivial
theorem hq.tw2460405866545305436 : True := trivial
theorem hq.tw17451322227400245958 : True := trivial
theorem hq.tw17191537605157243135 : True := trivial
theorem hq.tw12417311007122829836 : True := trivial
theorem hq.tw14322759412192637791 : True := trivial
theorem hq.tw11904904241039891960 : True := trivial
theorem hq.tw771947914003707973 : True := trivial
theorem hq.tw7907064084398135858 : True := trivial
theorem hq.tw11402776170388669038 : True := trivial
theorem hq.tw1618621502537572984 : True := trivial
theorem hq.tw4003514286515377017 : True := trivial
theorem hq.tw3085968280470273992 : True := trivial
theorem hq.tw16808026545511752837 : True := trivial
theorem hq.tw2060327042702796305 : True := trivial
theorem hq.tw3478883397168826629 : True := trivial
theorem hq.tw12235868485125894331 : True := trivial
theorem hq.tw5831826152446136541 : True := trivial
theorem hq.tw10515724994809746482 : True := trivial
theorem hq.tw16393828553131281715 : True := trivial
theorem hq.tw15649532564256049412 : True := trivial
theorem hq.tw3743617659619634157 : True := trivial
theorem hq.tw11341742245578585151 : True := trivial
theorem hq.tw13806801850589744240 : True := trivial
theorem hq.tw12939260477051835880 : True := trivial
theorem hq.tw9034970781958629739 : True := trivial
theorem hq.tw5186555515663700001 : True := trivial
theorem hq.tw14341861874139392994 : True := trivial
theorem hq.tw11603209444005165735 : True := trivial
theorem hq.tw8698537833381394938 : True := trivial
theorem hq.tw15976676881008073619 : True := trivial
theorem hq.tw193804917870597374 : True := trivial
theorem hq.tw15465583547859376084 : True := trivial
theorem hq.tw10193580565110878322 : True := trivial
theorem hq.tw5070146122541468937 : True := trivial
theorem hq.tw15298563710665395474 : True := trivial
theorem hq.tw3313988557390523843 : True := trivial
theorem hq.tw3616478996217396334 : True := trivial
theorem hq.tw12463699929421395298 : True := trivial
theorem hq.tw3480666100315175299 : True := trivial
theorem hq.tw6118443615581677530 : True := trivial
theorem hq.tw12219819207030029821 : True := trivial
theorem hq.tw8703168442280000639 : True := trivial
theorem hq.tw8351934630767971516 : True := trivial
theorem hq.tw15629568606158070697 : True := trivial
theorem hq.tw13468631102399112637 : True := trivial
theorem hq.tw7850188486041987321 : True := trivial
theorem hq.tw13790305200688822193 : True := trivial
theorem hq.tw10844470459063464443 : True := trivial
theorem hq.tw11526994993299814718 : True := trivial
theorem hq.tw16110583700999037536 : True := trivial
theorem hq.tw16750279658653203061 : True := trivial
theorem hq.tw14641220288254092781 : True := trivial
theorem hq.tw8094907942427954523 : True := trivial
theorem hq.tw14121371055001849588 : True := trivial
theorem hq.tw4836737923570769024 : True := trivial
theorem hq.tw1891928987753959268 : True := trivial
theorem hq.tw4950995695539448390 : True := trivial
theorem hq.tw8813382931127158424 : True := trivial
theorem hq.tw4411929513905312902 : True := trivial
theorem hq.tw4167004640589313651 : True := trivial
theorem hq.tw4171725333644275513 : True := trivial
theorem hq.tw16549860719943262585 : True := trivial
theorem hq.tw5991825269154617347 : True := trivial
theorem hq.tw11744208574076901363 : True := trivial
theorem hq.tw12889914191371890957 : True := trivial
theorem hq.tw10557348633716791549 : True := trivial
theorem hq.tw17820191805229482744 : True := trivial
theorem hq.tw17389483476063430775 : True := trivial
theorem hq.tw14325890831932252537 : True := trivial
theorem hq.tw5242819305724145141 : True := trivial
theorem hq.tw3926655162136758824 : True := trivial
theorem hq.tw8926073059922265167 : True := trivial
theorem hq.tw9188848632486924633 : True := trivial
theorem hq.tw9646654085657702968 : True := trivial
theorem hq.tw4330991180929535625 : True := trivial
theorem hq.tw17790109234249064360 : True := trivial
theorem hq.tw12058654197788596436 : True := trivial
theorem hq.tw722643689031310280 : True := trivial
theorem hq.tw9616370734746824208 : True := trivial
theorem hq.tw4666310112322607275 : True := trivial
theorem hq.tw13328776239465341797 : True := trivial
theorem hq.tw3406242299724796062 : True := trivial
theorem hq.tw15538522478304027338 : True := trivial
theorem hq.tw11762732935092854722 : True := trivial
theorem hq.tw3491428954475440883 : True := trivial
theorem hq.tw11660552598173695988 : True := trivial
theorem hq.tw430407546983676048 : True := trivial
theorem hq.tw9954246468241796668 : True := trivial
theorem hq.tw233199577985559970 : True := trivial
theorem hq.tw9763324061818089090 : True := trivial
theorem hq.tw12964062633142722049 : True := trivial
theorem hq.tw2454955673356105267 : True := trivial
theorem hq.tw10968501387965271627 : True := trivial
theorem hq.tw3106084185226902877 : True := trivial
theorem hq.tw3336950864418942310 : True := trivial
theorem hq.tw10899058296728633960 : True := trivial
theorem hq.tw5731166914374295624 : True := trivial
theorem hq.tw8116986973751701504 : True := trivial
theorem hq.tw2408465754971806201 : True := trivial
theorem hq.tw14680810799054715792 : True := trivial
theorem hq.tw16807017868417353128 : True := trivial
theorem hq.tw5429477869994368367 : True := trivial
theorem hq.tw1750795104730000546 : True := trivial
theorem hq.tw9375045823711978607 : True := trivial
theorem hq.tw16729471575171175110 : True := trivial
theorem hq.tw8095056757232527380 : True := trivial
theorem hq.tw2609510587700438405 : True := trivial
theorem hq.tw12224511430472119265 : True := trivial
theorem hq.tw1938263590962237213 : True := trivial
theorem hq.tw1601456569762913703 : True := trivial
theorem hq.tw2535131229827767169 : True := trivial
theorem hq.tw13835040335912294723 : True := trivial
theorem hq.tw5611102857607521741 : True := trivial
theorem hq.tw9371571126222788686 : True := trivial
theorem hq.tw14567226737135143758 : True := trivial
theorem hq.tw2568601839324270733 : True := trivial
theorem hq.tw2921467058064614194 : True := trivial
theorem hq.tw5613207279310253425 : True := trivial
theorem hq.tw674073021615805732 : True := trivial
theorem hq.tw13316007477278045594 : True := trivial
theorem hq.tw17688041192245645826 : True := trivial
theorem hq.tw5288753061374985246 : True := trivial
theorem hq.tw4665913176990191628 : True := trivial
theorem hq.tw8172153524177814700 : True := trivial
theorem hq.tw5740101952899550972 : True := trivial
theorem hq.tw14768286036203141162 : True := trivial
theorem hq.tw9168773537736573765 : True := trivial
theorem hq.tw13276833702047066570 : True := trivial
theorem hq.tw15734650141668845536 : True := trivial
theorem hq.tw14237485161361176573 : True := trivial
theorem hq.tw8267469052338804902 : True := trivial
theorem hq.tw8092459957483288813 : True := trivial
theorem hq.tw12428739965439566872 : True := trivial
theorem hq.tw10187816474469822774 : True := trivial
theorem hq.tw5906174600817787350 : True := trivial
theorem hq.tw12551386086251720438 : True := trivial
theorem hq.tw15947022525539137760 : True := trivial
theorem hq.tw563362546986366387 : True := trivial
theorem hq.tw15679604011437034704 : True := trivial
theorem hq.tw8877789121862873584 : True := trivial
theorem hq.tw12892139197361222039 : True := trivial
theorem hq.tw1790225447845560585 : True := trivial
theorem hq.tw17507516277433102289 : True := trivial
theorem hq.tw11550264267855334806 : True := trivial
theorem hq.tw10092852166775279130 : True := trivial
theorem hq.tw195319319105484837 : True := trivial
theorem hq.tw15487811534215124188 : True := trivial
theorem hq.tw14886498140707089192 : True := trivial
theorem hq.tw8049949838826251480 : True := trivial
theorem hq.tw9563767174587072967 : True := trivial
theorem hq.tw639632618262785173 : True := trivial
theorem hq.tw13001207721643841512 : True := trivial
theorem hq.tw6738601660276500248 : True := trivial
theorem hq.tw11912700123867046171 : True := trivial
theorem hq.tw16757073528338650253 : True := trivial
theorem hq.tw2320559199587278016 : True := trivial
theorem hq.tw384518735521986950 : True := trivial
theorem hq.tw18201938650840483205 : True := trivial
theorem hq.tw5914124745671280715 : True := trivial
theorem hq.tw15299981847786275131 : True := trivial
theorem hq.tw12529400630473540704 : True := trivial
theorem hq.tw14187982978997237623 : True := trivial
theorem hq.tw13510361038845904283 : True := trivial
theorem hq.tw926538531027841127 : True := trivial
theorem hq.tw13127699335793737955 : True := trivial
theorem hq.tw2757439949053186533 : True := trivial
theorem hq.tw18377318545847360015 : True := trivial
theorem hq.tw3154463578298619625 : True := trivial
theorem hq.tw3061969403100960489 : True := trivial
theorem hq.tw8670592598250618684 : True := trivial
theorem hq.tw17371673905730003010 : True := trivial
theorem hq.tw7128186512092943417 : True := trivial
theorem hq.tw16809807526908380884 : True := trivial
theorem hq.tw16867273931720873272 : True := trivial
theorem hq.tw18250771422189292895 : True := trivial
theorem hq.tw10189871300808820423 : True := trivial
theorem hq.tw2338785445158028428 : True := trivial
theorem hq.tw5219493252240457098 : True := trivial
theorem hq.tw8783513367562574285 : True := trivial
theorem hq.tw533107537510362154 : True := trivial
theorem hq.tw8331520620733812097 : True := trivial
theorem hq.tw14544256373392573544 : True := trivial
theorem hq.tw15752517208743610924 : True := trivial
theorem hq.tw1383527236628300131 : True := trivial
theorem hq.tw18064312367536619883 : True := trivial
theorem hq.tw1945927827826211355 : True := trivial
theorem hq.tw4115226851099395319 : True := trivial
theorem hq.tw12545650446048111660 : True := trivial
theorem hq.tw18340721319590389962 : True := trivial
theorem hq.tw7574501811584800559 : True := trivial
theorem hq.tw9950089704063908547 : True := trivial
theorem hq.tw8878085667783850231 : True := trivial
theorem hq.tw12728415866068041311 : True := trivial
set_option maxHeartbeats 0 in
theorem hq : PySem.Challenge.rw_kq0073_01.Holds := by
  w_on; o_law; k_head; (case hw => w_witness2)
  w_strict (
    k_go0
    rename Top topProg _ _ _ _ _ => T9
    rename Below callerA _ [] _ => B9
    rename Fr _ _ _ _ => F9
    rename News _ _ _ _ => N9
    rename CellsAre _ _ _ => X9
    rename IntsAre _ _ => I9
    rename Frag.In _ _ => K9
    rename _ < _ => l9
    rename ¬ _ => hc9
    refine Mine.law_end ?kf9 ?kx9 K9 T9 B9 F9 lifted I9 ?_ N9 ?_ X9 ?_ ?_ l9 PassesOwn.leaving ?_
    case kf9 =>
      have kfP : ∀ P : Params, Mine.KF (_root_.Mine.hq.heap_1_39 P) := by
        intro P
        constructor
        all_goals first | (exact ⟨Str.ofString "([&~|])", 292, 327, by kernel_rfl⟩) | (refine ⟨?_, ?_, ?_, ?_⟩ <;> kernel_rfl) | kernel_rfl
      exact kfP _
    case kx9 =>
      have kxP : ∀ P : Params, Mine.KX (_root_.Mine.hq.heap_1_39 P) := by
        intro P
        constructor
        all_goals kernel_rfl
      exact kxP _
    · omega
    · rfl
    · intro q hq
      rcases List.mem_cons.mp hq with rfl | hq
      · exact .head _
      rcases List.mem_cons.mp hq with rfl | hq
      · exact .tail _ (.head _)
      rcases List.mem_cons.mp hq with rfl | hq
      · exact .tail _ (.tail _ (.head _))
      · exact nomatch hq
    · exact .tail _ (.tail _ (.tail _ (.head _)))
    · intro h' tk' mr news' ps F' N' hm
      refine ⟨?_, ?_⟩
      · show GoodW _ _ _ _ _ (.ok (.ret (.bool true))) _
        refine goodW_bool F' (by assumption) (raisesW_false (by wrow_none_raised)) ?_
        refine' postW_of ?zs ?zv ?ze
        (case zs => rfl)
        (case zv => wtm_val)
        (case ze => w_fin)
      · exact ⟨GrownAt.of N' hm, trivial⟩)
end Mine
theorem PySem.Challenge.cw_kq0073_01_holds : PySem.Challenge.rw_kq0073_01.Holds := by
  exact Mine.hq
