import PyProof.Rows.All
import Wide.All
import OpenK.AllK
import Wide.FinOn
import PySem.Challenge.RW_pk0037_01
set_option Elab.async false
set_option maxRecDepth 100000
section
open PySem PySem.W PyProof.Rows
set_option maxHeartbeats 8000000
namespace Mine
local macro_rules | `(tactic| o_law) => `(tactic| refine holds_law (by kernel_rfl) fun said => ?_)
set_option synthInstance.maxSize 1 in
open_top hd37 for PySem.Challenge.rw_pk0037_01
end Mine
end
section
set_option genInjectivity false
set_option genSizeOf false
section
open PySem PySem.W PyProof.Rows PySem.Calls PyProof.Rows.LCg
namespace Mine

noncomputable abbrev PP : Program := PySem.Challenge.rw_pk0037_01.row.prog
noncomputable abbrev KK (w : World) : Frag := hd37.heap_1 w.params

/-- values without their tokens -/
inductive AV where
  | none
  | bool (b : Bool)
  | int (i : Int)
  | str (x : List Nat)
  | ref (a : Addr)
  | typ (n : String)
  | blt (id : String)
  | odd

noncomputable def er : Value → AV
  | .none => .none
  | .bool b => .bool b
  | .int i _ => .int i
  | .str s _ => .str s.cps.toList
  | .ref a => .ref a
  | .type n => .typ n
  | .builtin i => .blt i
  | _ => .odd

theorem er_none {v : Value} (h : er v = .none) : v = .none := by cases v <;> first | rfl | cases h
theorem er_bool {v : Value} {b : Bool} (h : er v = .bool b) : v = .bool b := by cases v <;> cases h; rfl
theorem er_int {v : Value} {i : Int} (h : er v = .int i) : ∃ t, v = .int i t := by cases v <;> cases h; exact ⟨_, rfl⟩
theorem er_str {v : Value} {x : List Nat} (h : er v = .str x) : ∃ t, v = .str ⟨x.toArray⟩ t := by
  cases v <;> cases h
  rename_i s t
  exact ⟨t, by cases s; simp⟩
theorem er_ref {v : Value} {a : Addr} (h : er v = .ref a) : v = .ref a := by cases v <;> cases h; rfl
/-- iterators: of a range, a list, a text, a callable till the empty text; an ended one -/
inductive ItK where
  | range (x left step : Int)
  | list (l : Addr) (i : Nat)
  | str (x : List Nat) (i : Nat)
  | call (m : Addr)
  | dead

/-- abstract objects -/
inductive AO where
  | list (xs : List AV)
  | vec (xs : List AV)
  | tuple (xs : List AV)
  | inst (C dx : Addr)
  | attrs (ns : List Str) (vs : List AV)
  | cell (v : Option AV)
  | it (k : ItK)
  | meth (f self : Addr)
  | fn (fd : FuncData) (d : Option Addr)
  | code (q : Str)
  | imap (f : Int → Option AV) (n : Nat)
  | raw (o : Obj)
  | exc (cls t : Addr)
  | args (xs : List AV)

noncomputable def AO.Is : AO → Obj → Prop
  | .list xs, o => ∃ (vs : List Value) (n : Nat), o = listOf vs.toArray n ∧ vs.map er = xs
  | .vec xs, o => ∃ (vs : List Value) (n : Nat), o.cls = .type "list" ∧ o.data = .seq vs.toArray n ∧ vs.map er = xs
  | .tuple xs, o => ∃ (vs : List Value) (n : Nat), o = ({ cls := .type "tuple", data := .seq vs.toArray n } : Obj) ∧ vs.map er = xs
  | .inst C dx, o => o = instObj C dx
  | .attrs ns vs, o => ∃ es n, o = dictOf es n ∧ es.map (fun e => er e.key) = ns.map (fun x => AV.str x.cps.toList) ∧ es.map (fun e => er e.val) = vs ∧ ns.Nodup
  | .cell v, o => o.data = .cell none ∧ v = none ∨ ∃ x, o.data = .cell (some x) ∧ v = some (er x)
  | .it (.range x left step), o => o = { cls := .type "range_iterator", data := .fields #[rawInt x, rawInt left, rawInt step] }
  | .it (.list l i), o => o.cls = .type "list_iterator" ∧ o.data = .fields #[.ref l, .int i 0]
  | .it (.str x i), o => ∃ t, o.cls = .type "str_ascii_iterator" ∧ o.data = .fields #[.str ⟨x.toArray⟩ t, .int i 0]
  | .it (.call m), o => ∃ t, o.cls = .type "callable_iterator" ∧ o.data = .fields #[.ref m, .str Str.empty t, .bool false]
  | .it .dead, o => o.cls = .type "callable_iterator" ∧ o.data = .fields #[.none, .none, .bool true]
  | .meth f self, o => o = methodObj (.ref f) (.ref self)
  | .fn fd d, o => o.cls = .type "function" ∧ o.dict = d ∧ o.data = .func fd
  | .code q, o => ∃ vs t, o.data = .fields vs ∧ vs[1]? = some (.str q t)
  | .imap f n, o => ∃ (fv : Int → Option Value) (es : Array DictEntry) (ep : Nat), o.cls = .type "dict" ∧ o.data = .dict es ep ∧ IntKeys es ∧ (∀ k, findBy Value.isInt es k = fv k) ∧ es.size ≤ n ∧ f = fun k => (fv k).map er
  | .raw o', o => o = o'
  | .exc cls t, o => o.cls = .ref cls ∧ ∃ ws, o.data = .fields ws ∧ ws[0]? = some (.ref t)
  | .args xs, o => o.cls = .type "tuple" ∧ ∃ (vs : List Value) (n : Nat), o.data = .seq vs.toArray n ∧ vs.map er = xs

structure St where
  m : List (Option AV)
  H : Addr → Option AO

noncomputable def hput (H : Addr → Option AO) (a : Addr) (o : AO) : Addr → Option AO := fun b => if b = a then some o else H b
noncomputable def St.put (σ : St) (a : Addr) (o : AO) : St := ⟨σ.m, hput σ.H a o⟩
theorem hput_self (H : Addr → Option AO) (a : Addr) (o : AO) : hput H a o a = some o := by simp [hput]
theorem hput_ne {H : Addr → Option AO} {a b : Addr} {o : AO} (h : b ≠ a) : hput H a o b = H b := by simp [hput, h]

/-- a block's names: locals, own cells, free ones, globals -/
structure FnS where
  nm : List Str
  cv : List Str
  fv : List Str
  gl : List Str

structure Cx where
  w : World
  g : Heap
  os : OsState
  env : Env
  ca : List Addr
  fa : List Addr
  outs : List (Addr × (Str → Option Value))

structure EnvOk (F : FnS) (C : Cx) : Prop where
  kind : C.env.scope.kind = .function
  glob : C.env.globals = mainGlobals
  blt : C.env.builtins = builtinsNs
  nm : ∀ (i : Nat) x, F.nm[i]? = some x → C.env.kindOf x = some .local ∧ (x == ("__debug__" : Str)) = false
  nmN : F.nm.Nodup
  cv : ∀ (i : Nat) x, F.cv[i]? = some x → C.env.kindOf x = some .cell ∧ (x == ("__debug__" : Str)) = false ∧ ∀ c, C.ca[i]? = some c → C.env.cells.lookup x = some c
  fv : ∀ (i : Nat) x, F.fv[i]? = some x → C.env.kindOf x = some .free ∧ (x == ("__debug__" : Str)) = false ∧ (x == ("__classdict__" : Str)) = false ∧ ∀ c, C.fa[i]? = some c → C.env.cells.lookup x = some c
  gl : ∀ (i : Nat) x, F.gl[i]? = some x → C.env.kindOf x = some .globalImplicit ∧ (x == ("__debug__" : Str)) = false

/-- what is known of the ground -/
structure Gnd (w : World) (g : Heap) : Prop where
  K : (KK w).In g
  top : ∃ p loose mean mg mb, Top p loose mean mg mb g ∧ (∀ x : Str, nsIn (KK w) mainGlobals x = some none → mg x = none)
  code : CodeHd g 144 140 ∧ CodeHd g 151 147

noncomputable abbrev Cx.L (C : Cx) : Addr := C.env.locals
/-- the frames further out: their names lie in the ledger, out of sight -/
noncomputable def OutOk (outs : List (Addr × (Str → Option Value))) (news : List (Addr × Obj)) (H : Addr → Option AO) : Prop := (∀ p ∈ outs, ∃ o, (p.1, o) ∈ news ∧ NsObj o p.2) ∧ ∀ a ao, H a = some ao → ∀ p ∈ outs, p.1 ≠ a
noncomputable def Led (F : FnS) (C : Cx) (h : Heap) (σ : St) (m₀ : Str → Option Value) (news : List (Addr × Obj)) : Prop :=
  Fr C.g C.L h m₀ ∧ News C.g C.L h news ∧ (news.map (·.1)).Nodup ∧ (∀ (i : Nat) x av, F.nm[i]? = some x → σ.m[i]? = some (some av) → ∃ v, m₀ x = some v ∧ er v = av) ∧ (∀ a ao, σ.H a = some ao → ∃ o, (a, o) ∈ news ∧ ao.Is o) ∧ OutOk C.outs news σ.H

structure At (F : FnS) (C : Cx) (σ : St) (s : Shared) : Prop where
  gens : s.gens = #[]
  os : s.os = C.os
  gnd : Gnd C.w C.g
  env : EnvOk F C
  led : ∃ m₀ news, Led F C s.heap σ m₀ news

section
variable {F : FnS} {C : Cx} {σ : St} {s s' : Shared}

theorem At.fr (h : At F C σ s) : ∃ m₀, Fr C.g C.L s.heap m₀ ∧ ∀ (i : Nat) x av, F.nm[i]? = some x → σ.m[i]? = some (some av) → ∃ v, m₀ x = some v ∧ er v = av :=
  let ⟨m₀, _, f, _, _, e, _⟩ := h.led; ⟨m₀, f, e⟩
theorem At.keep (h : At F C σ s) : ∀ b o, C.g.get? b = some o → s.heap.get? b = some o := let ⟨_, f, _⟩ := h.fr; f.keep
theorem At.K (h : At F C σ s) : (KK C.w).In s.heap := h.gnd.K.keeps h.keep
theorem At.get (h : At F C σ s) {a : Addr} {ao : AO} (e : σ.H a = some ao) : ∃ o, s.heap.get? a = some o ∧ ao.Is o ∧ a ≠ C.L ∧ C.g.get? a = none := by
  obtain ⟨m₀, news, _, N, _, _, k, _⟩ := h.led
  obtain ⟨o, hm, hi⟩ := k a ao e
  exact ⟨o, (N _ hm).1, hi, (N _ hm).2.1, (N _ hm).2.2⟩
theorem At.lt (h : At F C σ s) {a : Addr} {ao : AO} (e : σ.H a = some ao) : a < s.heap.objs.size := let ⟨_, q, _⟩ := h.get e; Heap.lt_size q
theorem At.fresh (h : At F C σ s) {a : Addr} (ha : s.heap.objs.size ≤ a) : σ.H a = none := by
  cases e : σ.H a with
  | none => rfl
  | some ao => exact absurd (h.lt e) (Nat.not_lt.mpr ha)

/-- less may be known -/
theorem At.less (h : At F C σ s) {σ' : St} (hm : ∀ (i : Nat) av, σ'.m[i]? = some (some av) → σ.m[i]? = some (some av)) (hH : ∀ a ao, σ'.H a = some ao → σ.H a = some ao) : At F C σ' s :=
  ⟨h.gens, h.os, h.gnd, h.env, let ⟨m₀, news, f, N, D, e, k, x⟩ := h.led; ⟨m₀, news, f, N, D, (fun i x av y q => e i x av y (hm i av q)), (fun a ao q => k a ao (hH a ao q)), x.1, fun a ao q => x.2 a ao (hH a ao q)⟩⟩

/-- only garbage is new -/
theorem At.keeps (h : At F C σ s) (hg : s'.gens = s.gens) (ho : s'.os = s.os) (k : ∀ b o, s.heap.get? b = some o → s'.heap.get? b = some o) : At F C σ s' :=
  ⟨hg.trans h.gens, ho.trans h.os, h.gnd, h.env, let ⟨m₀, news, f, N, D, e, q⟩ := h.led; ⟨m₀, news, f.keeps k, fun p hp => ⟨k _ _ (N p hp).1, (N p hp).2⟩, D, e, q⟩⟩

/-- a new object -/
theorem At.new (h : At F C σ s) {D : Addr} {o : Obj} {ao : AO} (hg : s'.gens = s.gens) (ho : s'.os = s.os) (k : ∀ b o, s.heap.get? b = some o → s'.heap.get? b = some o) (hD : s'.heap.get? D = some o) (hi : ao.Is o) (hlt : s.heap.objs.size ≤ D) :
    At F C (σ.put D ao) s' := by
  obtain ⟨m₀, news, f, N, ND, e, q, x⟩ := h.led
  refine ⟨hg.trans h.gens, ho.trans h.os, h.gnd, h.env, m₀, (D, o) :: news, f.keeps k, fun p hp => ?_, ?_, e, fun a ao' ha => ?_, fun p hp => ?_, fun a ao' ha p hp => ?_⟩
  · rcases List.mem_cons.mp hp with rfl | hp
    · refine ⟨hD, Nat.ne_of_gt (Nat.lt_of_lt_of_le f.ns.lt hlt), ?_⟩
      cases z : C.g.get? D with
      | none => rfl
      | some o' => exact absurd (Heap.lt_size (f.keep _ _ z)) (Nat.not_lt.mpr hlt)
    · exact ⟨k _ _ (N p hp).1, (N p hp).2⟩
  · rw [List.map_cons, List.nodup_cons]
    refine ⟨fun hm => ?_, ND⟩
    obtain ⟨p, hp, e'⟩ := List.mem_map.mp hm
    have := Heap.lt_size (N p hp).1
    rw [e'] at this
    exact absurd this (Nat.not_lt.mpr hlt)
  · unfold St.put hput at ha
    dsimp only at ha
    split at ha
    · rename_i e'; cases ha; subst e'; exact ⟨o, .head _, hi⟩
    · obtain ⟨o', hm, hi'⟩ := q a ao' ha; exact ⟨o', .tail _ hm, hi'⟩
  · obtain ⟨o', hm, hi'⟩ := x.1 p hp; exact ⟨o', .tail _ hm, hi'⟩
  · unfold St.put hput at ha
    dsimp only at ha
    split at ha
    · rename_i z; subst z
      obtain ⟨o', hm, _⟩ := x.1 p hp
      exact fun z => absurd (Heap.lt_size (N _ hm).1) (Nat.not_lt.mpr (z ▸ hlt))
    · exact x.2 a ao' ha p hp

/-- a known object is another one now -/
theorem At.upd (h : At F C σ s) {a : Addr} {ao ao' : AO} {o' : Obj} (ha : σ.H a = some ao) (hg : s'.gens = s.gens) (ho : s'.os = s.os) (k : ∀ b o, b ≠ a → s.heap.get? b = some o → s'.heap.get? b = some o) (hD : s'.heap.get? a = some o') (hi : ao'.Is o') :
    At F C (σ.put a ao') s' := by
  obtain ⟨m₀, news, f, N, ND, e, q, x⟩ := h.led
  obtain ⟨o, hm, _⟩ := q a ao ha
  have na := N _ hm
  refine ⟨hg.trans h.gens, ho.trans h.os, h.gnd, h.env, m₀, news.map (fun p => if p.1 = a then (a, o') else p), ⟨f.ns.extBut (fun b o hb e => k b o hb e) na.2.1.symm, fun b ob e => k b ob (fun z => ?_) (f.keep b ob e), f.above⟩, fun p hp => ?_, ?_, e, fun b bo hb => ?_, fun p hp => ?_, fun b bo hb p hp => ?_⟩
  · rw [z, na.2.2] at e; cases e
  · obtain ⟨p₀, hp₀, rfl⟩ := List.mem_map.mp hp
    split
    · exact ⟨hD, na.2⟩
    · rename_i z; exact ⟨k _ _ z (N p₀ hp₀).1, (N p₀ hp₀).2⟩
  · have : (news.map (fun p => if p.1 = a then (a, o') else p)).map (·.1) = news.map (·.1) := by
      rw [List.map_map]
      refine List.map_congr_left fun p _ => ?_
      simp only [Function.comp]
      split
      · rename_i z; exact z.symm
      · rfl
    rw [this]; exact ND
  · unfold St.put hput at hb
    dsimp only at hb
    split at hb
    · rename_i z
      cases hb
      subst z
      exact ⟨o', List.mem_map.mpr ⟨_, hm, by simp⟩, hi⟩
    · rename_i z
      obtain ⟨ob, hmb, hib⟩ := q b bo hb
      exact ⟨ob, List.mem_map.mpr ⟨_, hmb, by simp [z]⟩, hib⟩
  · obtain ⟨ob, hmb, hib⟩ := x.1 p hp
    exact ⟨ob, List.mem_map.mpr ⟨_, hmb, by simp [x.2 a ao ha p hp]⟩, hib⟩
  · unfold St.put hput at hb
    dsimp only at hb
    split at hb
    · rename_i z; subst z; exact x.2 _ ao ha p hp
    · exact x.2 b bo hb p hp

/-- a known object is known as something else -/
theorem At.recast (h : At F C σ s) {a : Addr} {ao ao' : AO} (ha : σ.H a = some ao) (hi : ∀ o, ao.Is o → ao'.Is o) : At F C (σ.put a ao') s := by
  obtain ⟨o, ho, hio, _⟩ := h.get ha
  exact h.upd ha rfl rfl (fun _ _ _ e => e) ho (hi o hio)
noncomputable def hdel (H : Addr → Option AO) (a : Addr) : Addr → Option AO := fun b => if b = a then none else H b
/-- an object is forgotten that is no longer known -/
theorem At.lose (h : At F C σ s) {a : Addr} {ao : AO} (ha : σ.H a = some ao) (hg : s'.gens = s.gens) (ho : s'.os = s.os) (k : ∀ b o, b ≠ a → s.heap.get? b = some o → s'.heap.get? b = some o) :
    At F C ⟨σ.m, hdel σ.H a⟩ s' := by
  obtain ⟨m₀, news, f, N, ND, e, q, x⟩ := h.led
  obtain ⟨o, hm, _⟩ := q a ao ha
  have na := N _ hm
  refine ⟨hg.trans h.gens, ho.trans h.os, h.gnd, h.env, m₀, news.filter (fun p => p.1 != a), ⟨f.ns.extBut (fun b o hb e => k b o hb e) na.2.1.symm, fun b ob e => k b ob (fun z => ?_) (f.keep b ob e), f.above⟩, fun p hp => ?_, ?_, e, fun b bo hb => ?_, fun p hp => ?_, fun b bo hb p hp => ?_⟩
  · rw [z, na.2.2] at e; cases e
  · rw [List.mem_filter] at hp
    have z : p.1 ≠ a := by simpa using hp.2
    exact ⟨k _ _ z (N p hp.1).1, (N p hp.1).2⟩
  · exact List.Nodup.sublist (List.Sublist.map _ (List.filter_sublist)) ND
  · unfold hdel at hb
    dsimp only at hb
    split at hb
    · cases hb
    · rename_i z
      obtain ⟨ob, hmb, hib⟩ := q b bo hb
      exact ⟨ob, List.mem_filter.mpr ⟨hmb, by simpa using z⟩, hib⟩
  · obtain ⟨ob, hmb, hib⟩ := x.1 p hp
    exact ⟨ob, List.mem_filter.mpr ⟨hmb, by simpa using x.2 a ao ha p hp⟩, hib⟩
  · unfold hdel at hb
    dsimp only at hb
    split at hb
    · cases hb
    · exact x.2 b bo hb p hp
end
end Mine

end
section
open PySem PySem.W PyProof.Rows PySem.Calls
namespace Mine

/-- the logic's word, kept shut -/
structure Wp {α : Type} (w : World) (A : Around) (t : Sem α) (Q : α → Shared → Prop) (E : Value → Shared → Prop) (s : Shared) : Prop where
  ok : wpAny (model PP w) A t Q E s
structure Cd (w : World) (A : Around) (c : Code) (R : Result → Shared → Prop) (s : Shared) : Prop where
  ok : codeAny (model PP w) A c R s

section names
variable {F : FnS} {C : Cx} {σ : St} {s : Shared} {A : Around} {E : Value → Shared → Prop} {x : Str} {pos : Pos} {av : AV} {c : Addr}

theorem am_ldlocal (i : Nat) {Q : Value → Shared → Prop} (h : At F C σ s) (hx : F.nm[i]? = some x) (hv : σ.m[i]? = some (some av)) (k : ∀ v, er v = av → Q v s) :
    Wp C.w A (loadName C.env x) Q E s := by
  refine ⟨?_⟩
  obtain ⟨m₀, f, e⟩ := h.fr
  obtain ⟨v, h1, h2⟩ := e i x av hx hv
  exact wpAny_loadName_local h.env.kind (h.env.nm i x hx).1 f.ns h1 (k v h2)
theorem am_local (i : Nat) {Q : Value → Shared → Prop} (h : At F C σ s) (hx : F.nm[i]? = some x) (hv : σ.m[i]? = some (some av)) (k : ∀ v, er v = av → Q v s) :
    Wp C.w A (eval (.Name x pos) C.env) Q E s := ⟨wpAny_Name (am_ldlocal i h hx hv k).ok (h.env.nm i x hx).2⟩
theorem am_glob (i : Nat) {Q : Value → Shared → Prop} {v : Value} (h : At F C σ s) (hx : F.gl[i]? = some x) (hv : nsIn (KK C.w) mainGlobals x = some (some v)) (k : Q v s) :
    Wp C.w A (eval (.Name x pos) C.env) Q E s := by
  refine ⟨?_⟩
  obtain ⟨p, l, me, mg, mb, T, _⟩ := h.gnd.top
  refine Name_function_global h.env.kind (h.env.gl i x hx).1 (loadGlobal_global (mg := mg) ?_ (mg_of h.gnd.K T.g hv) k) (h.env.gl i x hx).2
  rw [h.env.glob]; exact T.g.keeps h.keep
theorem am_bltn (i : Nat) {Q : Value → Shared → Prop} {v : Value} (h : At F C σ s) (hx : F.gl[i]? = some x) (hv : nsIn (KK C.w) mainGlobals x = some none) (hb : bootBuiltins x = some v) (hn : x ≠ "__name__") (k : Q v s) :
    Wp C.w A (eval (.Name x pos) C.env) Q E s := by
  refine ⟨?_⟩
  obtain ⟨p, l, me, mg, mb, T, _⟩ := h.gnd.top
  refine Name_function_global h.env.kind (h.env.gl i x hx).1 (loadGlobal_builtin (mg := mg) (mb := mb) ?_ (mg_none_of h.gnd.K T.g hv) ?_ ((T.builtins x hn).trans hb) k) (h.env.gl i x hx).2
  · rw [h.env.glob]; exact T.g.keeps h.keep
  · rw [h.env.blt]; exact T.b.keeps h.keep
theorem am_cellv (h : At F C σ s) (hc : σ.H c = some (.cell (some av))) : ∃ o v, s.heap.get? c = some o ∧ o.data = .cell (some v) ∧ er v = av := by
  obtain ⟨o, ho, hi, _⟩ := h.get hc
  rcases hi with ⟨_, z⟩ | ⟨v, hd, e⟩
  · cases z
  · cases e; exact ⟨o, v, ho, hd, rfl⟩
theorem am_ldcell (i : Nat) {Q : Value → Shared → Prop} (h : At F C σ s) (hx : F.cv[i]? = some x) (ha : C.ca[i]? = some c) (hc : σ.H c = some (.cell (some av))) (k : ∀ v, er v = av → Q v s) :
    Wp C.w A (loadName C.env x) Q E s := by
  refine ⟨?_⟩
  obtain ⟨o, v, h1, h2, h3⟩ := am_cellv h hc
  obtain ⟨q1, q2, q3⟩ := h.env.cv i x hx
  exact wpAny_loadName_cell h.env.kind q1 (q3 c ha) ⟨o, h1, h2⟩ (k v h3)
theorem am_cell (i : Nat) {Q : Value → Shared → Prop} (h : At F C σ s) (hx : F.cv[i]? = some x) (ha : C.ca[i]? = some c) (hc : σ.H c = some (.cell (some av))) (k : ∀ v, er v = av → Q v s) :
    Wp C.w A (eval (.Name x pos) C.env) Q E s := ⟨wpAny_Name (am_ldcell i h hx ha hc k).ok (h.env.cv i x hx).2.1⟩
theorem am_free (i : Nat) {Q : Value → Shared → Prop} (h : At F C σ s) (hx : F.fv[i]? = some x) (ha : C.fa[i]? = some c) (hc : σ.H c = some (.cell (some av))) (k : ∀ v, er v = av → Q v s) :
    Wp C.w A (eval (.Name x pos) C.env) Q E s := by
  refine ⟨?_⟩
  obtain ⟨o, v, h1, h2, h3⟩ := am_cellv h hc
  obtain ⟨q1, q2, q3, q4⟩ := h.env.fv i x hx
  exact wpAny_Name (wpAny_loadName_free h.env.kind q1 (q4 c ha) ⟨o, h1, h2⟩ (k v h3) q3) q2
theorem am_store (i : Nat) {Q : Unit → Shared → Prop} {v : Value} (h : At F C σ s) (hx : F.nm[i]? = some x) (k : ∀ s', At F C ⟨σ.m.set i (some (er v)), σ.H⟩ s' → Q () s') :
    Wp C.w A (storeName C.env x v) Q E s := by
  refine ⟨?_⟩
  obtain ⟨m₀, news, f, N, ND, e, q⟩ := h.led
  refine wpAny_storeName_local (h.env.nm i x hx).1 f.ns (fun h' hn hs => k _ ⟨h.gens, h.os, h.gnd, h.env, _, news, f.set hn hs, N.set hs, ND, fun j y av hy hv => ?_, q⟩) ?_
  · dsimp only at hv
    by_cases hij : i = j
    · subst hij
      rw [hx] at hy; cases hy
      refine ⟨v, by simp, ?_⟩
      rw [List.getElem?_set] at hv
      simp only [if_true] at hv
      split at hv
      · cases hv; rfl
      · cases hv
    · rw [List.getElem?_set] at hv
      simp only [hij, if_false] at hv
      obtain ⟨v', hv', he⟩ := e j y av hy hv
      have : y ≠ x := fun z => by
        subst z
        have hi : i < F.nm.length := (List.getElem?_eq_some_iff.mp hx).1
        have := (List.getElem?_inj hi h.env.nmN).mp (hx.trans hy.symm)
        exact hij this
      exact ⟨v', by simp [this, hv'], he⟩
  · rw [h.env.kind]; rfl
theorem am_storecell (i : Nat) {Q : Unit → Shared → Prop} {v : Value} {ov : Option AV} (h : At F C σ s) (hx : F.cv[i]? = some x) (ha : C.ca[i]? = some c) (hc : σ.H c = some (.cell ov)) (k : ∀ s', At F C (σ.put c (.cell (some (er v)))) s' → Q () s') :
    Wp C.w A (storeName C.env x v) Q E s := by
  refine ⟨?_⟩
  obtain ⟨o, ho, hi, _⟩ := h.get hc
  have hd : ∃ v₀, o.data = .cell v₀ := by
    rcases hi with ⟨z, _⟩ | ⟨v, z, _⟩ <;> exact ⟨_, z⟩
  obtain ⟨v₀, hd⟩ := hd
  obtain ⟨q1, q2, q3⟩ := h.env.cv i x hx
  refine wpAny_storeName_cell h.env.kind q1 (q3 c ha) ⟨o, ho, hd⟩ fun h' hv hs => ?_
  obtain ⟨o', ho', hd'⟩ := hv
  exact k _ (h.upd hc rfl rfl (fun b o hb e => hs.extBut b o hb e) ho' (.inr ⟨v, hd', rfl⟩))
end names

section consts
variable {F : FnS} {C : Cx} {σ : St} {s : Shared} {A : Around} {E : Value → Shared → Prop} {env : Env} {pos : Pos} {k : Nat}
theorem At.tok (h : At F C σ s) (n : Nat) : At F C σ { s with toks := n } := h.keeps rfl rfl fun _ _ e => e
theorem am_cint {Q : Value → Shared → Prop} {i : Int} (h : At F C σ s) (q : ∀ v s', At F C σ s' → er v = .int i → Q v s') : Wp C.w A (eval (.Constant (.int i) k pos) env) Q E s := ⟨wpAny_Constant_int (q _ _ (h.tok _) rfl)⟩

theorem am_cstr {Q : Value → Shared → Prop} {x : Str} (h : At F C σ s) (q : ∀ v s', At F C σ s' → er v = .str x.cps.toList → Q v s') : Wp C.w A (eval (.Constant (.str x) k pos) env) Q E s := ⟨wpAny_mkText (q _ _ (h.tok _) rfl)⟩

theorem am_cnone {Q : Value → Shared → Prop} (q : Q .none s) : Wp C.w A (eval (.Constant .none k pos) env) Q E s := ⟨wpAny_pure q⟩

end consts

section aints
variable {F : FnS} {C : Cx} {σ : St} {s : Shared} {A : Around} {E : Value → Shared → Prop} {a b : Value} {i j : Int} {Q : Value → Shared → Prop}
theorem am_add (h : At F C σ s) (ha : er a = .int i) (hb : er b = .int j) (q : ∀ v s', At F C σ s' → er v = .int (i + j) → Q v s') : Wp C.w A (binaryOp .Add a b) Q E s := by
  refine ⟨?_⟩
  obtain ⟨t, rfl⟩ := er_int ha; obtain ⟨u, rfl⟩ := er_int hb; exact PySem.P.add_int (q _ _ (h.tok _) rfl)
theorem am_iadd (h : At F C σ s) (ha : er a = .int i) (hb : er b = .int j) (q : ∀ v s', At F C σ s' → er v = .int (i + j) → Q v s') : Wp C.w A (inplaceOp .Add a b) Q E s := by
  refine ⟨?_⟩
  obtain ⟨t, rfl⟩ := er_int ha; obtain ⟨u, rfl⟩ := er_int hb; exact PySem.P.iadd_int (q _ _ (h.tok _) rfl)
theorem am_isub (h : At F C σ s) (ha : er a = .int i) (hb : er b = .int j) (q : ∀ v s', At F C σ s' → er v = .int (i - j) → Q v s') : Wp C.w A (inplaceOp .Sub a b) Q E s := by
  refine ⟨?_⟩
  obtain ⟨t, rfl⟩ := er_int ha; obtain ⟨u, rfl⟩ := er_int hb; exact PySem.P.isub_int (q _ _ (h.tok _) rfl)
theorem am_sub (h : At F C σ s) (ha : er a = .int i) (hb : er b = .int j) (q : ∀ v s', At F C σ s' → er v = .int (i - j) → Q v s') : Wp C.w A (binaryOp .Sub a b) Q E s := by
  refine ⟨?_⟩
  obtain ⟨t, rfl⟩ := er_int ha; obtain ⟨u, rfl⟩ := er_int hb; exact PySem.P.sub_int (q _ _ (h.tok _) rfl)
theorem am_mod (h : At F C σ s) (ha : er a = .int i) (hb : er b = .int j) (hj : 0 < j) (q : ∀ v s', At F C σ s' → er v = .int (i % j) → Q v s') : Wp C.w A (binaryOp .Mod a b) Q E s := by
  refine ⟨?_⟩
  obtain ⟨t, rfl⟩ := er_int ha; obtain ⟨u, rfl⟩ := er_int hb
  refine PyProof.Rows.mod_int' (by omega) (q _ _ (h.tok _) ?_)
  show AV.int _ = _
  rw [Int.fmod_eq_emod_of_nonneg _ (by omega)]
theorem am_fdiv (h : At F C σ s) (ha : er a = .int i) (hb : er b = .int j) (hj : 0 < j) (hs : j < 1000000000) (q : ∀ v s', At F C σ s' → er v = .int (i / j) → Q v s') : Wp C.w A (binaryOp .FloorDiv a b) Q E s := by
  refine ⟨?_⟩
  obtain ⟨t, rfl⟩ := er_int ha; obtain ⟨u, rfl⟩ := er_int hb
  refine PyProof.Rows.floordiv_int (by omega) (q _ _ (h.tok _) ?_) (.inl (PyProof.noPylong_small (by omega)))
  show AV.int _ = _
  rw [Int.fdiv_eq_ediv_of_nonneg _ (by omega)]
theorem am_pow (h : At F C σ s) (ha : er a = .int i) (hb : er b = .int j) (hj : 0 ≤ j) (hs : (PySem.Builtin.Int.intBits i : Int) * j ≤ 2 ^ 27) (q : ∀ v s', At F C σ s' → er v = .int (i ^ j.toNat) → Q v s') : Wp C.w A (binaryOp .Pow a b) Q E s := by
  refine ⟨?_⟩
  obtain ⟨t, rfl⟩ := er_int ha; obtain ⟨u, rfl⟩ := er_int hb
  exact PyProof.Rows.pow_int hj hs (q _ _ (h.tok _) rfl)
theorem am_band (h : At F C σ s) (ha : er a = .int i) (hb : er b = .int j) (q : ∀ v s', At F C σ s' → er v = .int (PySem.Builtin.bitAnd i j) → Q v s') : Wp C.w A (binaryOp .BitAnd a b) Q E s := by
  refine ⟨?_⟩
  obtain ⟨t, rfl⟩ := er_int ha; obtain ⟨u, rfl⟩ := er_int hb
  exact PyProof.Rows.and_int (q _ _ (h.tok _) rfl)
theorem am_shr (h : At F C σ s) (ha : er a = .int i) (hb : er b = .int j) (hj : 0 ≤ j) (q : ∀ v s', At F C σ s' → er v = .int (i / 2 ^ j.toNat) → Q v s') : Wp C.w A (binaryOp .RShift a b) Q E s := by
  refine ⟨?_⟩
  obtain ⟨t, rfl⟩ := er_int ha; obtain ⟨u, rfl⟩ := er_int hb
  refine PyProof.Rows.rshift_int hj (q _ _ (h.tok _) ?_)
  show AV.int _ = _
  have : (0 : Int) ≤ 2 ^ j.toNat := Int.le_of_lt (Int.pow_pos (by decide))
  rw [Int.fdiv_eq_ediv_of_nonneg _ this]
theorem am_shl (h : At F C σ s) (ha : er a = .int i) (hb : er b = .int j) (hj : 0 ≤ j) (hj2 : j ≤ 1000000) (hi : i.natAbs < 2 ^ 64) (q : ∀ v s', At F C σ s' → er v = .int (i * 2 ^ j.toNat) → Q v s') : Wp C.w A (binaryOp .LShift a b) Q E s := by
  refine ⟨?_⟩
  obtain ⟨t, rfl⟩ := er_int ha; obtain ⟨u, rfl⟩ := er_int hb
  exact PyProof.Rows.lshift_int_small hj hj2 hi (q _ _ (h.tok _) rfl)
theorem am_neg (h : At F C σ s) (ha : er a = .int i) (q : ∀ v s', At F C σ s' → er v = .int (-i) → Q v s') : Wp C.w A (unaryOp .USub a) Q E s := by
  refine ⟨?_⟩
  obtain ⟨t, rfl⟩ := er_int ha; exact PySem.P.neg_int (q _ _ (h.tok _) rfl)
theorem am_eq (ha : er a = .int i) (hb : er b = .int j) (q : Q (.bool (i == j)) s) : Wp C.w A (compareOp .Eq a b) Q E s := by
  refine ⟨?_⟩
  obtain ⟨t, rfl⟩ := er_int ha; obtain ⟨u, rfl⟩ := er_int hb; exact PySem.P.eq_int q
theorem am_lt (ha : er a = .int i) (hb : er b = .int j) (q : Q (.bool (decide (i < j))) s) : Wp C.w A (compareOp .Lt a b) Q E s := by
  refine ⟨?_⟩
  obtain ⟨t, rfl⟩ := er_int ha; obtain ⟨u, rfl⟩ := er_int hb; exact PySem.P.lt_int q
theorem am_le (ha : er a = .int i) (hb : er b = .int j) (q : Q (.bool (decide (i ≤ j))) s) : Wp C.w A (compareOp .LtE a b) Q E s := by
  refine ⟨?_⟩
  obtain ⟨t, rfl⟩ := er_int ha; obtain ⟨u, rfl⟩ := er_int hb; exact PySem.P.le_int q
theorem am_gt (ha : er a = .int i) (hb : er b = .int j) (q : Q (.bool (decide (i > j))) s) : Wp C.w A (compareOp .Gt a b) Q E s := by
  refine ⟨?_⟩
  obtain ⟨t, rfl⟩ := er_int ha; obtain ⟨u, rfl⟩ := er_int hb; exact PySem.P.gt_int q
theorem am_truthy_bool {Q : Bool → Shared → Prop} {c : Bool} (q : Q c s) : Wp C.w A (truthy (.bool c)) Q E s := ⟨wpAny_truthy_bool q⟩

end aints

section astrs
variable {F : FnS} {C : Cx} {σ : St} {s : Shared} {A : Around} {E : Value → Shared → Prop} {a b : Value} {x y : List Nat} {Q : Value → Shared → Prop}
theorem am_seq (ha : er a = .str x) (hb : er b = .str y) (q : Q (.bool (x == y)) s) : Wp C.w A (compareOp .Eq a b) Q E s := by
  refine ⟨?_⟩
  obtain ⟨t, rfl⟩ := er_str ha; obtain ⟨u, rfl⟩ := er_str hb; exact PySem.P.eq_str q
theorem am_sne (ha : er a = .str x) (hb : er b = .str y) (q : Q (.bool (x != y)) s) : Wp C.w A (compareOp .NotEq a b) Q E s := by
  refine ⟨?_⟩
  obtain ⟨t, rfl⟩ := er_str ha; obtain ⟨u, rfl⟩ := er_str hb; exact PySem.P.ne_str q
theorem made_cat {t u : Tok} (h : At F C σ s) (hz : x.length + y.length ≤ 1000000) (q : ∀ v s', At F C σ s' → er v = .str (x ++ y) → Q v s') :
    (if (⟨x.toArray⟩ : Str).length == 0 then Made.val (.str ⟨y.toArray⟩ u) else if (⟨y.toArray⟩ : Str).length == 0 then Made.val (.str ⟨x.toArray⟩ t) else Made.str (⟨x.toArray⟩ ++ ⟨y.toArray⟩)).post Q s := by
  have hx : (⟨x.toArray⟩ : Str).length = x.length := by simp [Str.length]
  have hy : (⟨y.toArray⟩ : Str).length = y.length := by simp [Str.length]
  rw [hx, hy]
  split
  · rename_i z
    have : x = [] := by cases x with | nil => rfl | cons _ _ => simp at z
    subst this
    exact q _ _ h rfl
  · split
    · rename_i z
      have : y = [] := by cases y with | nil => rfl | cons _ _ => simp at z
      subst this
      exact q _ _ h (by simp [er])
    · have hc : ((⟨x.toArray⟩ : Str) ++ (⟨y.toArray⟩ : Str)).cps.toList = x ++ y := by
        rw [Str.cps_append]; simp
      refine ⟨?_, q _ _ (h.tok _) ?_⟩
      · rw [Str.length_append, hx, hy, sizeLine_eq]; omega
      · show AV.str _ = _; rw [hc]
theorem am_sadd (h : At F C σ s) (ha : er a = .str x) (hb : er b = .str y) (hz : x.length + y.length ≤ 1000000) (q : ∀ v s', At F C σ s' → er v = .str (x ++ y) → Q v s') : Wp C.w A (binaryOp .Add a b) Q E s := by
  refine ⟨?_⟩
  obtain ⟨t, rfl⟩ := er_str ha; obtain ⟨u, rfl⟩ := er_str hb; exact PySem.P.add_str (made_cat h hz q)
theorem am_isadd (h : At F C σ s) (ha : er a = .str x) (hb : er b = .str y) (hz : x.length + y.length ≤ 1000000) (q : ∀ v s', At F C σ s' → er v = .str (x ++ y) → Q v s') : Wp C.w A (inplaceOp .Add a b) Q E s := by
  refine ⟨?_⟩
  obtain ⟨t, rfl⟩ := er_str ha; obtain ⟨u, rfl⟩ := er_str hb; exact PySem.P.iadd_str (made_cat h hz q)
end astrs
end Mine

end
section
open PySem PySem.W PyProof.Rows PySem.Calls
namespace Mine

section conts
variable (w : World) (A : Around) (env : Env)
noncomputable def AsgQ (x : Str) (Q : Flow → Shared → Prop) (E : Value → Shared → Prop) : Value → Shared → Prop := fun v s => Wp w A (storeName env x v) (fun _ => Q .next) E s
noncomputable def BinB (op : Operator) (a : Value) (Q E : Value → Shared → Prop) : Value → Shared → Prop := fun b s => Wp w A (binaryOp op a b) Q E s
noncomputable def BinA (op : Operator) (r : Expr) (Q E : Value → Shared → Prop) : Value → Shared → Prop := fun a s => Wp w A (eval r env) (BinB w A op a Q E) E s
noncomputable def UnQ (op : UnaryOp) (Q E : Value → Shared → Prop) : Value → Shared → Prop := fun v s => Wp w A (unaryOp op v) Q E s
noncomputable def CmpB (op : CmpOp) (a : Value) (Q E : Value → Shared → Prop) : Value → Shared → Prop := fun b s => Wp w A (compareOp op a b) Q E s
noncomputable def CmpA (op : CmpOp) (r : Expr) (Q E : Value → Shared → Prop) : Value → Shared → Prop := fun a s => Wp w A (eval r env) (CmpB w A op a Q E) E s
noncomputable def TruQ (Q : Bool → Shared → Prop) (E : Value → Shared → Prop) : Value → Shared → Prop := fun v s => Wp w A (truthy v) Q E s
noncomputable def SubB (value slice : Expr) (o : Value) (Q E : Value → Shared → Prop) : Value → Shared → Prop := fun i s => Wp w A (subscriptTail value slice o i) Q E s
noncomputable def SubA (value slice : Expr) (Q E : Value → Shared → Prop) : Value → Shared → Prop := fun o s => Wp w A (eval slice env) (SubB w A value slice o Q E) E s
noncomputable def AttQ (attr : Str) (Q E : Value → Shared → Prop) : Value → Shared → Prop := fun o s => Wp w A (getAttr o attr true) Q E s
noncomputable def ConsQ (v : Value) (Q : List Value → Shared → Prop) : List Value → Shared → Prop := fun vs s => Q (v :: vs) s
noncomputable def SpQ (rest : List Expr) (pos : Pos) (Q : List Value → Shared → Prop) (E : Value → Shared → Prop) : Value → Shared → Prop := fun v s => Wp w A (spliced (backTo pos (starEach rest env))) (ConsQ v Q) E s
noncomputable def McB (args : List Expr) (pos : Pos) (Q E : Value → Shared → Prop) : Value × List Value → Shared → Prop := fun fx s => Wp w A (callWith pos fx.1 fx.2 (backTo pos (starEach args env)) []) Q E s
noncomputable def McA (name : Str) (pl : Sem Bool) (args : List Expr) (pos : Pos) (Q E : Value → Shared → Prop) : Value → Shared → Prop := fun ov s => Wp w A (getMethod ov name pl) (McB w A env args pos Q E) E s
noncomputable def AugC (x : Str) (Q : Flow → Shared → Prop) (E : Value → Shared → Prop) (op : Operator) (old : Value) : Value → Shared → Prop := fun v s => Wp w A (inplaceOp op old v) (AsgQ w A env x Q E) E s
noncomputable def AugA (x : Str) (op : Operator) (value : Expr) (Q : Flow → Shared → Prop) (E : Value → Shared → Prop) : Value → Shared → Prop := fun old s => Wp w A (eval value env) (AugC w A env x Q E op old) E s
noncomputable def SetC (ov v : Value) (Q : Flow → Shared → Prop) (E : Value → Shared → Prop) : Value → Shared → Prop := fun iv s => Wp w A (setItem ov iv v) (fun _ => Q .next) E s
noncomputable def SetB (i : Expr) (v : Value) (Q : Flow → Shared → Prop) (E : Value → Shared → Prop) : Value → Shared → Prop := fun ov s => Wp w A (eval i env) (SetC w A ov v Q E) E s
noncomputable def SetA (o i : Expr) (Q : Flow → Shared → Prop) (E : Value → Shared → Prop) : Value → Shared → Prop := fun v s => Wp w A (eval o env) (SetB w A env i v Q E) E s
noncomputable def CallR (Q E : Value → Shared → Prop) : Result → Shared → Prop := fun r s => match r with | .ok (.ret v) => Q v s | .ok _ => False | .error e => E e s
end conts
section structural
variable {α β : Type} {w : World} {A : Around} {E : Value → Shared → Prop} {s : Shared} {env : Env}
theorem Wp.up {t : Sem α} {Q Q' : α → Shared → Prop} (h : Wp w A t Q E s) (k : ∀ a s, Q a s → Q' a s) : wpAny (model PP w) A t Q' E s := wpAny_mono h.ok k fun _ _ x => x
theorem Wp.mono {t : Sem α} {Q Q' : α → Shared → Prop} (h : Wp w A t Q E s) (k : ∀ a s, Q a s → Q' a s) : Wp w A t Q' E s := ⟨h.up k⟩
theorem wp_nil {Q : Flow → Shared → Prop} (h : Q .next s) : Wp w A (execs [] env) Q E s := ⟨wpAny_execs_nil h⟩
noncomputable def SeqQ (w : World) (A : Around) (rest : List Stmt) (env : Env) (Q : Flow → Shared → Prop) (E : Value → Shared → Prop) : Flow → Shared → Prop := fun f s' => match f with | .next => Wp w A (execs rest env) Q E s' | f => Q f s'
theorem wp_cons {st rest} {Q : Flow → Shared → Prop} (h : Wp w A (exec st env) (SeqQ w A rest env Q E) E s) : Wp w A (execs (st :: rest) env) Q E s :=
  ⟨wpAny_execs_cons (h.up fun f s' x => by cases f <;> first | exact x.ok | exact x)⟩
theorem wp_ret {e pos} {Q : Flow → Shared → Prop} (h : Wp w A (eval e env) (fun v => Q (.ret v)) E s) : Wp w A (exec (.Return (some e) pos) env) Q E s := ⟨wpAny_Return_some h.ok⟩
theorem wp_brk {pos} {Q : Flow → Shared → Prop} (h : Q .brk s) : Wp w A (exec (.Break pos) env) Q E s := ⟨wpAny_Break h⟩
theorem wp_cont {pos} {Q : Flow → Shared → Prop} (h : Q .cont s) : Wp w A (exec (.Continue pos) env) Q E s := ⟨by rw [arm_exec_Continue]; exact wpAny_bind (wpAny_standAt (wpAny_pure h))⟩
theorem wp_if {test body orelse pos} {Q : Flow → Shared → Prop} (h : Wp w A (isTrue test env (eval test env)) (fun b s₂ => if b then Wp w A (execs body env) Q E s₂ else Wp w A (execs orelse env) Q E s₂) E s) :
    Wp w A (exec (.If test body orelse pos) env) Q E s := ⟨wpAny_If (h.up fun b s₂ x => by cases b <;> exact x.ok)⟩
theorem wp_assign {x pos' value pos} {Q : Flow → Shared → Prop} (h : Wp w A (eval value env) (AsgQ w A env x Q E) E s)
    (hs : swapsWith value (some (.Name x pos')) pos.line env = pure false := by rfl) : Wp w A (exec (.Assign [.Name x pos'] value pos) env) Q E s := ⟨wpAny_Assign_Name (h.up fun _ _ x => x.ok) hs⟩
theorem wp_aug {x pos' op value pos} {Q : Flow → Shared → Prop}
    (h : Wp w A (loadName env x) (AugA w A env x op value Q E) E s) :
    Wp w A (exec (.AugAssign (.Name x pos') op value pos) env) Q E s := ⟨wpAny_AugAssign_Name (h.up fun _ _ x => x.up fun _ _ x => x.up fun _ _ x => x.ok)⟩
theorem wp_binop {l op r pos} {Q : Value → Shared → Prop} (h : Wp w A (eval l env) (BinA w A env op r Q E) E s) :
    Wp w A (eval (.BinOp l op r pos) env) Q E s := ⟨wpAny_BinOp (h.up fun _ _ x => x.up fun _ _ x => x.ok)⟩
theorem wp_unop {op x pos} {Q : Value → Shared → Prop} (h : Wp w A (eval x env) (UnQ w A op Q E) E s) : Wp w A (eval (.UnaryOp op x pos) env) Q E s := ⟨wpAny_UnaryOp (h.up fun _ _ x => x.ok)⟩
theorem wp_cmp {l op r pos} {Q : Value → Shared → Prop} (h : Wp w A (eval l env) (CmpA w A env op r Q E) E s)
    (hm : behindInMarks op r = false := by with_unfolding_all rfl) : Wp w A (eval (.Compare l [op] [r] pos) env) Q E s := ⟨wpAny_Compare1 (h.up fun _ _ x => x.up fun _ _ x => x.ok) hm⟩
theorem wp_tcmp {l op r pos whole} {Q : Bool → Shared → Prop} (h : Wp w A (eval l env) (CmpA w A env op r (TruQ w A Q E) E) E s)
    (hm : behindInMarks op r = false := by with_unfolding_all rfl) : Wp w A (isTrue (.Compare l [op] [r] pos) env whole) Q E s := ⟨wpAny_isTrue_Compare1 (h.up fun _ _ x => x.up fun _ _ x => x.up fun _ _ x => x.ok) hm⟩
theorem wp_tnot {x pos whole} {Q : Bool → Shared → Prop} (h : Wp w A (isTrue x env (eval x env)) (fun c s' => Q (!c) s') E s) : Wp w A (isTrue (.UnaryOp .Not x pos) env whole) Q E s := ⟨isTrue_not h.ok⟩
theorem wp_tand0 {pos whole} {Q : Bool → Shared → Prop} (h : Q true s) : Wp w A (isTrue (.BoolOp .And [] pos) env whole) Q E s := ⟨isTrue_and_nil h⟩
theorem wp_tor0 {pos whole} {Q : Bool → Shared → Prop} (h : Q false s) : Wp w A (isTrue (.BoolOp .Or [] pos) env whole) Q E s := ⟨isTrue_or_nil h⟩
theorem wp_tand {x rest pos whole} {Q : Bool → Shared → Prop} (h : Wp w A (isTrue x env (eval x env)) (fun c s' => if c then Wp w A (isTrue (.BoolOp .And rest pos) env whole) Q E s' else Q false s') E s) :
    Wp w A (isTrue (.BoolOp .And (x :: rest) pos) env whole) Q E s := ⟨isTrue_and (h.up fun c s' x => by cases c <;> first | exact x.ok | exact x)⟩
theorem wp_tor {x rest pos whole} {Q : Bool → Shared → Prop} (h : Wp w A (isTrue x env (eval x env)) (fun c s' => if c then Q true s' else Wp w A (isTrue (.BoolOp .Or rest pos) env whole) Q E s') E s) :
    Wp w A (isTrue (.BoolOp .Or (x :: rest) pos) env whole) Q E s := ⟨isTrue_or (h.up fun c s' x => by cases c <;> first | exact x.ok | exact x)⟩
theorem wp_tplain {e : Expr} {whole : Sem Value} {Q : Bool → Shared → Prop} (h : Wp w A whole (TruQ w A Q E) E s)
    (he : isTrue e env whole = (do let v ← whole; standAt e.pos; holding [v] (truthy v)) := by rfl) : Wp w A (isTrue e env whole) Q E s := ⟨isTrue_plain (h.up fun _ _ x => x.ok) he⟩
theorem wp_ifexp {test body orelse pos} {Q : Value → Shared → Prop} (h : Wp w A (isTrue test env (eval test env)) (fun b s₁ => if b then Wp w A (eval body env) Q E s₁ else Wp w A (eval orelse env) Q E s₁) E s) :
    Wp w A (eval (.IfExp test body orelse pos) env) Q E s := ⟨wpAny_IfExp (h.up fun c _ x => by cases c <;> exact x.ok)⟩
theorem wp_and {x rest pos} {r : Expr} {Q : Value → Shared → Prop} (h : Wp w A (eval x env) (fun v s₁ => Wp w A (truthy v) (fun b s₂ => if b then Wp w A (eval (.BoolOp .And (r :: rest) pos) env) Q E s₂ else Q v s₂) E s₁) E s) :
    Wp w A (eval (.BoolOp .And (x :: r :: rest) pos) env) Q E s := by
  refine ⟨?_⟩
  show wpAny _ A (do
    let v ← eval x env
    standAt pos
    let t ← holding [v] (truthy v)
    match BoolOp.And, t with
    | .And, false | .Or, true => pure v
    | _, _ => boolOp pos .And (evalEach (r :: rest) env)) Q E s
  refine wpAny_bind (h.up fun v s₁ x => wpAny_bind (wpAny_standAt (wpAny_bind (wpAny_holding (x.up fun b s₂ y => ?_)))))
  cases b with
  | false => exact wpAny_pure y
  | true => exact y.ok
theorem wp_and1 {x pos} {Q : Value → Shared → Prop} (h : Wp w A (eval x env) Q E s) : Wp w A (eval (.BoolOp .And [x] pos) env) Q E s := ⟨h.ok⟩
theorem wp_sub {value slice pos} {Q : Value → Shared → Prop} (h : Wp w A (eval value env) (SubA w A env value slice Q E) E s) :
    Wp w A (eval (.Subscript value slice pos) env) Q E s := ⟨Subscript_ (h.up fun _ _ x => x.up fun _ _ x => x.ok)⟩
theorem wp_attr {value : Expr} {attr : Str} {pos : Pos} {Q : Value → Shared → Prop} (h : Wp w A (eval value env) (AttQ w A attr Q E) E s)
    (he : eval (.Attribute value attr pos) env = (do
      let o ← eval value env
      standAt pos.atName
      let r ← holding [o] (getAttr o attr true)
      letTemporaryGo value o r
      pure r) := by with_unfolding_all rfl) : Wp w A (eval (.Attribute value attr pos) env) Q E s := ⟨Attribute_any_ (h.up fun _ _ x => x.ok) he⟩
theorem wp_mcall {o : Expr} {name : Str} {apos pos : Pos} {args : List Expr} {pl : Sem Bool} {Q : Value → Shared → Prop}
    (h : Wp w A (eval o env) (McA w A env name pl args pos Q E) E s)
    (he : eval (.Call (.Attribute o name apos) args [] pos) env = (do
      let ov ← eval o env
      standAt apos.atName
      let (f, first) ← holding [ov] (getMethod ov name pl)
      callWith pos f first (backTo pos (starEach args env)) []) := by rfl) : Wp w A (eval (.Call (.Attribute o name apos) args [] pos) env) Q E s := ⟨MethodCall_ (h.up fun _ _ x => x.up fun _ _ x => x.ok) he⟩
theorem wp_sp0 {pos : Pos} {Q : List Value → Shared → Prop} (h : Q [] s) : Wp w A (spliced (backTo pos (starEach [] env))) Q E s := ⟨spliced_none h⟩
theorem wp_sp {e : Expr} {rest : List Expr} {pos : Pos} {Q : List Value → Shared → Prop} (h : Wp w A (eval e env) (SpQ w A env rest pos Q E) E s)
    (he : starEach (e :: rest) env = (false, eval e env) :: starEach rest env := by rfl) : Wp w A (spliced (backTo pos (starEach (e :: rest) env))) Q E s := ⟨spliced_more (h.up fun _ _ x => x.ok) he⟩
theorem wp_augattr {o value : Expr} {attr : Str} {tpos pos : Pos} {op : Operator} {Q : Flow → Shared → Prop}
    (h : Wp w A (eval o env) (fun ov s₁ => Wp w A (getAttr ov attr true) (fun old s₂ => Wp w A (eval value env) (fun v s₃ => Wp w A (inplaceOp op old v) (fun new s₄ => Wp w A (setAttr ov attr new) (fun _ => Q .next) E s₄) E s₃) E s₂) E s₁) E s) :
    Wp w A (exec (.AugAssign (.Attribute o attr tpos) op value pos) env) Q E s := ⟨wpAny_AugAssign_AttributeAny (h.up fun _ _ x => x.up fun _ _ x => x.up fun _ _ x => x.up fun _ _ x => x.ok)⟩
theorem wp_setsub {o i pos' value pos} {Q : Flow → Shared → Prop}
    (h : Wp w A (eval value env) (SetA w A env o i Q E) E s)
    (hs : swapsWith value (some (.Subscript o i pos')) pos.line env = pure false := by rfl) : Wp w A (exec (.Assign [.Subscript o i pos'] value pos) env) Q E s := ⟨wpAny_Assign_Subscript (h.up fun _ _ x => x.up fun _ _ x => x.up fun _ _ x => x.ok) hs⟩
theorem wp_call {f : Value} {pos : List Value} {kw : List (Str × Value)} {Q : Value → Shared → Prop} (hc : Cd w A (.call f ⟨pos, kw⟩) (CallR Q E) s) :
    Wp w A (call f pos kw) Q E s := ⟨wpAny_call hc.ok⟩
end structural
end Mine

end
section
open PySem PySem.W PyProof.Rows PySem.Calls
namespace Mine

theorem key_of {v : Value} {x : Str} (h : er v = .str x.cps.toList) : ∃ t, v = .str x t := by
  obtain ⟨t, rfl⟩ := er_str h
  exact ⟨t, by cases x; simp⟩

theorem attrs_get {name : Str} {av : AV} : ∀ {es : List DictEntry} {ns : List Str} {vs : List AV} {i : Nat}, es.map (fun e => er e.key) = ns.map (fun x => AV.str x.cps.toList) → es.map (fun e => er e.val) = vs → ns.Nodup →
    ns[i]? = some name → vs[i]? = some av → ∃ v, getL name es = some (some v) ∧ er v = av
  | [], ns, vs, i, h1, h2, _, h3, h4 => by
    cases h2; simp at h4
  | e :: es, [], vs, i, h1, _, _, _, _ => by simp at h1
  | e :: es, n :: ns, vs, i, h1, h2, hN, h3, h4 => by
    simp only [List.map_cons, List.cons.injEq] at h1
    obtain ⟨t, ht⟩ := key_of h1.1
    cases i with
    | zero =>
      simp at h3; subst h3 h2
      simp at h4
      refine ⟨e.val, ?_, h4⟩
      unfold getL
      rw [List.find?_cons, ht]
      simp [Value.isStr]
    | succ i =>
      subst h2
      simp only [List.map_cons, List.getElem?_cons_succ] at h3 h4
      rw [List.nodup_cons] at hN
      obtain ⟨v, g1, g2⟩ := attrs_get h1.2 rfl hN.2 h3 h4
      refine ⟨v, ?_, g2⟩
      have hne : n ≠ name := fun z => hN.1 (z ▸ List.mem_of_getElem? h3)
      unfold getL at g1 ⊢
      rw [List.find?_cons, ht]
      have : (Value.str n t).isStr name = false := by simp [Value.isStr, hne]
      rw [this]
      split at g1
      · rename_i e' he; rw [he]; exact g1
      · split at g1 <;> cases g1
theorem attrs_none {name : Str} : ∀ {es : List DictEntry} {ns : List Str}, es.map (fun e => er e.key) = ns.map (fun x => AV.str x.cps.toList) → name ∉ ns → getL name es = some none
  | [], _, _, _ => rfl
  | e :: es, [], h1, _ => by simp at h1
  | e :: es, n :: ns, h1, hn => by
    simp only [List.map_cons, List.cons.injEq] at h1
    obtain ⟨t, ht⟩ := key_of h1.1
    have ih := attrs_none h1.2 (fun z => hn (.tail _ z))
    have hne : n ≠ name := fun z => hn (z ▸ .head _)
    unfold getL at ih ⊢
    rw [List.find?_cons, ht]
    have : (Value.str n t).isStr name = false := by simp [Value.isStr, hne]
    rw [this]
    split at ih
    · cases ih
    · rename_i he
      rw [he]
      split at ih
      · cases ih
      · rename_i hr
        have : (e :: es).any (·.refKey) = false := by
          rw [List.any_cons]
          have : e.refKey = false := by unfold DictEntry.refKey; rw [ht]
          rw [this]; simpa using hr
        simp only [this]; rfl
theorem attrs_put {name : Str} {v : Value} {hs : Int} {tk : Tok} : ∀ {es : List DictEntry} {ns : List Str} {vs : List AV} {i : Nat}, es.map (fun e => er e.key) = ns.map (fun x => AV.str x.cps.toList) → es.map (fun e => er e.val) = vs → ns.Nodup → ns[i]? = some name →
    (putL name hs (.str name tk) v es).map (fun e => er e.key) = ns.map (fun x => AV.str x.cps.toList) ∧ (putL name hs (.str name tk) v es).map (fun e => er e.val) = vs.set i (er v)
  | [], ns, vs, i, h1, h2, _, h3 => by
    cases ns with
    | nil => simp at h3
    | cons _ _ => simp at h1
  | e :: es, [], vs, i, h1, _, _, _ => by simp at h1
  | e :: es, n :: ns, vs, i, h1, h2, hN, h3 => by
    simp only [List.map_cons, List.cons.injEq] at h1
    obtain ⟨t, ht⟩ := key_of h1.1
    cases i with
    | zero =>
      simp at h3; subst h3 h2
      have : e.key.isStr n = true := by rw [ht]; simp [Value.isStr]
      unfold putL
      rw [if_pos this]
      simp [h1.1, h1.2]
    | succ i =>
      subst h2
      simp only [List.getElem?_cons_succ] at h3
      rw [List.nodup_cons] at hN
      obtain ⟨g1, g2⟩ := attrs_put (v := v) (hs := hs) (tk := tk) h1.2 rfl hN.2 h3
      have hne : n ≠ name := fun z => hN.1 (z ▸ List.mem_of_getElem? h3)
      have : ¬ e.key.isStr name = true := by rw [ht]; simp [Value.isStr, hne]
      unfold putL
      rw [if_neg this]
      simp only [List.map_cons, List.set_cons_succ, g1, g2, h1.1, and_self]
theorem attrs_add {name : Str} {v : Value} {hs : Int} {tk : Tok} : ∀ {es : List DictEntry} {ns : List Str} {vs : List AV}, es.map (fun e => er e.key) = ns.map (fun x => AV.str x.cps.toList) → es.map (fun e => er e.val) = vs → name ∉ ns →
    (putL name hs (.str name tk) v es).map (fun e => er e.key) = (ns ++ [name]).map (fun x => AV.str x.cps.toList) ∧ (putL name hs (.str name tk) v es).map (fun e => er e.val) = vs ++ [er v]
  | [], [], vs, h1, h2, _ => by
    subst h2; exact ⟨rfl, rfl⟩
  | [], _ :: _, vs, h1, _, _ => by simp at h1
  | e :: es, [], vs, h1, _, _ => by simp at h1
  | e :: es, n :: ns, vs, h1, h2, hn => by
    simp only [List.map_cons, List.cons.injEq] at h1
    obtain ⟨t, ht⟩ := key_of h1.1
    subst h2
    obtain ⟨g1, g2⟩ := attrs_add (v := v) (hs := hs) (tk := tk) h1.2 rfl (fun z => hn (.tail _ z))
    have hne : n ≠ name := fun z => hn (z ▸ .head _)
    have : ¬ e.key.isStr name = true := by rw [ht]; simp [Value.isStr, hne]
    unfold putL
    rw [if_neg this]
    simp only [List.map_cons, List.cons_append, g1, g2, h1.1, and_self]

noncomputable def attrOk (K : Frag) (Cl : Addr) (name : Str) : Bool := plainGet K Cl name && hasDictIn K Cl && findIn K (.ref Cl) name == some none
noncomputable def setOk (K : Frag) (Cl : Addr) (name : Str) : Bool := findIn K (.ref Cl) "__setattr__" == some (some (.builtin "object.__setattr__")) && plainOver K Cl && takerIn K Cl name == some none && hasDictIn K Cl
noncomputable def methOk (K : Frag) (Cl : Addr) (name : Str) (f : Addr) : Bool := plainGet K Cl name && findIn K (.ref Cl) name == some (some (.ref f)) && isFn K (.ref f)
noncomputable def AV.okk : AV → Bool
  | .blt _ => false
  | .odd => false
  | _ => true
theorem handed_er {v : Value} {av : AV} (h : er v = av) (ok : av.okk = true) : handedIn v = true := by
  subst h; cases v <;> first | rfl | cases ok

section
variable {F : FnS} {C : Cx} {σ : St} {s : Shared} {A : Around} {E : Value → Shared → Prop} {x dx Cl f : Addr} {ns : List Str} {vs : List AV} {name : Str} {av : AV}
theorem inst_at (h : At F C σ s) (hx : σ.H x = some (.inst Cl dx)) (hd : σ.H dx = some (.attrs ns vs)) :
    ∃ es n, InstAt s.heap x (instObj Cl dx) Cl (some (dictOf es n)) ∧ es.map (fun e => er e.key) = ns.map (fun x => AV.str x.cps.toList) ∧ es.map (fun e => er e.val) = vs ∧ ns.Nodup ∧ s.heap.get? dx = some (dictOf es n) := by
  obtain ⟨o, ho, hi, _⟩ := h.get hx
  obtain ⟨o', ho', ⟨es, n, rfl, e1, e2, e3⟩, _⟩ := h.get hd
  cases hi
  exact ⟨es, n, ⟨ho, rfl, rfl, ho'⟩, e1, e2, e3, ho'⟩
theorem am_getattr (i : Nat) {Q : Value → Shared → Prop} {b : Bool} (h : At F C σ s) (hx : σ.H x = some (.inst Cl dx)) (hd : σ.H dx = some (.attrs ns vs)) (hn : ns[i]? = some name) (hv : vs[i]? = some av)
    (ha : attrOk (KK C.w) Cl name = true) (ok : av.okk = true) (k : ∀ v s', At F C σ s' → er v = av → Q v s') : Wp C.w A (getAttr (.ref x) name b) Q E s := by
  refine ⟨?_⟩
  obtain ⟨es, n, I, e1, e2, e3, _⟩ := inst_at h hx hd
  obtain ⟨v, g1, g2⟩ := attrs_get e1 e2 e3 hn hv
  simp only [attrOk, Bool.and_eq_true, beq_iff_eq] at ha
  obtain ⟨⟨a1, a2⟩, a3⟩ := ha
  exact get_value h.K I (plainGet_of a1).1 (findObj_own a2 a3 rfl (by rw [lookIn_dict]; exact g1)) (handed_er g2 ok) (k v _ (h.tok _) g2)
theorem am_method {Q : Value × List Value → Shared → Prop} {pl : Sem Bool} (h : At F C σ s) (hx : σ.H x = some (.inst Cl dx)) (hd : σ.H dx = some (.attrs ns vs)) (hn : name ∉ ns)
    (ha : methOk (KK C.w) Cl name f = true) (k : Q (.ref f, [.ref x]) s) : Wp C.w A (getMethod (.ref x) name pl) Q E s := by
  refine ⟨?_⟩
  obtain ⟨es, n, I, e1, e2, e3, _⟩ := inst_at h hx hd
  simp only [methOk, Bool.and_eq_true, beq_iff_eq] at ha
  obtain ⟨⟨a1, a2⟩, a3⟩ := ha
  exact method_fn h.K I (plainGet_of a1).1 (plainGet_of a1).2 a2 (beq_iff_eq.mp a3) (by show (lookIn name (dictOf es n)).map _ = _; rw [lookIn_dict, attrs_none e1 hn]; rfl) k

theorem am_setcore {Q : Unit → Shared → Prop} {v : Value} {ns' : List Str} {vs' : List AV} (h : At F C σ s) (hx : σ.H x = some (.inst Cl dx)) (hd : σ.H dx = some (.attrs ns vs)) (hl : ns'.length ≤ 1000)
    (hp : ∀ (es : List DictEntry) hs tk, es.map (fun e => er e.key) = ns.map (fun x => AV.str x.cps.toList) → es.map (fun e => er e.val) = vs → ns.Nodup → (getL name es).isSome = true ∧
      (putL name hs (.str name tk) v es).map (fun e => er e.key) = ns'.map (fun x => AV.str x.cps.toList) ∧ (putL name hs (.str name tk) v es).map (fun e => er e.val) = vs' ∧ ns'.Nodup)
    (ha : setOk (KK C.w) Cl name = true) (k : ∀ s', At F C (σ.put dx (.attrs ns' vs')) s' → Q () s') : Wp C.w A (setAttr (.ref x) name v) Q E s := by
  refine ⟨?_⟩
  obtain ⟨es, n, I, e1, e2, e3, hdx⟩ := inst_at h hx hd
  simp only [setOk, Bool.and_eq_true, beq_iff_eq] at ha
  obtain ⟨⟨⟨a1, a2⟩, a3⟩, a4⟩ := ha
  obtain ⟨m₀, f⟩ := h.fr
  have hN : News C.g C.L s.heap [(dx, dictOf es n)] := fun p hp => by
    rcases List.mem_singleton.mp hp with rfl
    obtain ⟨_, _, _, q1, q2⟩ := h.get hd
    exact ⟨hdx, q1, q2⟩
  obtain ⟨p1, p2, p3, p4⟩ := hp es (PyData.keyHash C.w.params name) (s.toks + 1) e1 e2 e3
  refine set_plain h.K I a1 ?_
  have hl' : (putL name (PyData.keyHash C.w.params name) (.str name (s.toks + 1)) v es).length ≤ 1000 := by
    have := congrArg List.length p2; simp only [List.length_map] at this; omega
  refine osa_open (s := { s with toks := s.toks + 1 }) h.K I a2 a3 fun b => ?_
  obtain ⟨cd, hc, hd'⟩ := any_some a4
  obtain ⟨hx', hcl, hno, -⟩ := I
  dsimp only at hcl
  refine wpAny_bind (wpAny_pure (wpAny_bind (wpAny_bind (wpAny_loadPart hx' (wpAny_bind (Looks.here (s := { s with toks := s.toks + 1 }) (looks_clsIn h.K hc) ?_))))))
  rw [hd']
  refine wpAny_pure (a := some dx) (wpAny_bind (wpAny_pure (wpAny_bind ?_)))
  unfold nsSet
  refine wpAny_bind (wpAny_bind (wpAny_askSetting (wpAny_pure (wpAny_bind (wpAny_mkText (wpAny_bind (wpAny_loadPart hdx ?_)))))))
  have c : (!es.toArray.any (·.key.isStr name) && es.toArray.any (·.refKey)) = false := by
    have : es.any (·.refKey) = false := by
      rw [List.any_eq_false]
      intro e he hr
      have : er e.key ∈ es.map (fun e => er e.key) := List.mem_map_of_mem (f := fun e => er e.key) he
      rw [e1] at this
      obtain ⟨z, _, hz⟩ := List.mem_map.mp this
      obtain ⟨t, ht⟩ := key_of hz.symm
      unfold DictEntry.refKey at hr; rw [ht] at hr; cases hr
    rw [← Array.any_toList, ← Array.any_toList]
    simp [this]
  dsimp only
  rw [aRefKeyMayBeTheName_at, c]
  refine wpAny_updatePart hdx ?_
  have D' : (s.heap.update dx (Obj.putName name (PyData.keyHash C.w.params name) (.str name (s.toks + 1)) v)).get? dx = some (dictOf (putL name (PyData.keyHash C.w.params name) (.str name (s.toks + 1)) v es) (putN name es n)) := by
    have := Heap.get?_update_self (h := s.heap) (Obj.putName name (PyData.keyHash C.w.params name) (.str name (s.toks + 1)) v) hdx (by rw [putName_dict]; rfl)
    rw [this, putName_dict]
  refine wpAny_bind (wpAny_lookBehind D' (pastItsLine_dict (by rw [List.size_toArray, sizeLine_eq]; omega)) ?_)
  refine wpAny_pure ?_
  exact k _ (h.upd hd rfl rfl (fun b o hb e => (Heap.get?_update_other _ _ (Ne.symm hb)).trans e) D' ⟨_, _, rfl, p2, p3, p4⟩)
theorem am_setattr (i : Nat) {Q : Unit → Shared → Prop} {v : Value} (h : At F C σ s) (hx : σ.H x = some (.inst Cl dx)) (hd : σ.H dx = some (.attrs ns vs)) (hn : ns[i]? = some name) (hiv : i < vs.length)
    (ha : setOk (KK C.w) Cl name = true) (hl : ns.length ≤ 1000) (k : ∀ s', At F C (σ.put dx (.attrs ns (vs.set i (er v)))) s' → Q () s') : Wp C.w A (setAttr (.ref x) name v) Q E s :=
  am_setcore h hx hd hl (fun es hs tk e1 e2 e3 => by
    obtain ⟨g1, g2⟩ := attrs_put (v := v) (hs := hs) (tk := tk) e1 e2 e3 hn
    obtain ⟨v', g, _⟩ := attrs_get e1 e2 e3 hn (List.getElem?_eq_getElem hiv)
    exact ⟨by rw [g]; rfl, g1, g2, e3⟩) ha k
theorem am_addattr {Q : Unit → Shared → Prop} {v : Value} (h : At F C σ s) (hx : σ.H x = some (.inst Cl dx)) (hd : σ.H dx = some (.attrs ns vs)) (hn : name ∉ ns)
    (ha : setOk (KK C.w) Cl name = true) (hl : ns.length < 1000) (k : ∀ s', At F C (σ.put dx (.attrs (ns ++ [name]) (vs ++ [er v]))) s' → Q () s') : Wp C.w A (setAttr (.ref x) name v) Q E s :=
  am_setcore h hx hd (by simp; omega) (fun es hs tk e1 e2 e3 => by
    obtain ⟨g1, g2⟩ := attrs_add (v := v) (hs := hs) (tk := tk) e1 e2 hn
    refine ⟨by rw [attrs_none e1 hn]; rfl, g1, g2, ?_⟩
    rw [List.nodup_append]
    exact ⟨e3, by simp, fun a ha b hb z => hn (by rw [List.mem_singleton.mp hb] at z; exact z ▸ ha)⟩) ha k
end
end Mine

end
section
open PySem PySem.W PyProof.Rows PySem.Calls PyProof.Rows.LCg
namespace Mine

/-- what is fixed of a function -/
structure FnK (F : FnS) (ps : List Str) (body : List Stmt) (fd : FuncData) : Prop where
  body : fd.body = .stmts body
  glob : fd.globals = mainGlobals
  blt : fd.builtins = builtinsNs
  kind : fd.scope.kind = .function
  co : fd.scope.isCoroutine = false
  gen : fd.scope.isGenerator = false
  cell : ∀ x ∈ fd.scope.names, x.2 ≠ .cell
  bind : ∀ vs : List Value, vs.length = ps.length → bindArgs fd ⟨vs, []⟩ = pure (ps.zip vs)
  par : ∃ r, F.nm = ps ++ r
  nm : ∀ (i : Nat) x, F.nm[i]? = some x → fd.scope.names.lookup x = some .local ∧ (x == ("__debug__" : Str)) = false
  nmN : F.nm.Nodup
  cv : F.cv = []
  fv : ∀ (i : Nat) x, F.fv[i]? = some x → fd.scope.names.lookup x = some .free ∧ (x == ("__debug__" : Str)) = false ∧ (x == ("__classdict__" : Str)) = false
  gl : ∀ (i : Nat) x, F.gl[i]? = some x → fd.scope.names.lookup x = some .globalImplicit ∧ (x == ("__debug__" : Str)) = false

noncomputable def retOf : Flow → Value
  | .ret v => v
  | _ => .none

/-- the way back to the caller -/
noncomputable def LeaveE (w : World) (A : Around) (env : Env) (R : Result → Shared → Prop) : Value → Shared → Prop := fun e s'' => wpAny (model PP w) (A.deeper env) (leaving env e) (fun _ s₃ => R (.error e) s₃) (fun e' s₃ => R (.error e') s₃) s''
noncomputable def Back (F : FnS) (C : Cx) (σ : St) (F' : FnS) (C' : Cx) (R : Result → Shared → Prop) (fl : Flow) (s : Shared) : Prop :=
  ∃ σ', At F' C' σ' s ∧ (At F C ⟨σ.m, σ'.H⟩ s → R (.ok (.ret (retOf fl))) s)

/-- the stack, as a raise wants it -/
structure Stk (A : Around) (C : Cx) (fs : List Env) : Prop where
  fr : A.frames = some fs
  env : ∀ e ∈ fs, e.scope.kind = .function ∧ ∃ L, e.frame = some L ∧ (L = C.L ∨ ∃ p ∈ C.outs, p.1 = L)

theorem At.outNe {F : FnS} {C : Cx} {σ : St} {s : Shared} (h : At F C σ s) : ∀ p ∈ C.outs, p.1 ≠ C.L := fun p hp => by
  obtain ⟨m₀, news, f, N, ND, e, q, x⟩ := h.led
  obtain ⟨o, hm, _⟩ := x.1 p hp
  exact (N _ hm).2.1
theorem At.leave {F F' : FnS} {C C' : Cx} {σ σ' : St} {s s' : Shared} {m₀ : Str → Option Value} (h : At F C σ s) (hm : ∀ (i : Nat) x av, F.nm[i]? = some x → σ.m[i]? = some (some av) → ∃ v, m₀ x = some v ∧ er v = av) (hg : C'.g = C.g)
    (ho : C'.os = C.os) (hx : C'.outs = (C.L, m₀) :: C.outs) (h' : At F' C' σ' s') : At F C ⟨σ.m, σ'.H⟩ s' := by
  have ne := h.outNe
  obtain ⟨_, fr, _⟩ := h.fr
  obtain ⟨m₁, news', f', N', ND', e', q', x'⟩ := h'.led
  rw [hg] at f' N'
  rw [hx] at x'
  obtain ⟨oL, hL, nL⟩ := x'.1 _ (.head _)
  refine ⟨h'.gens, h'.os.trans ho, h.gnd, h.env, m₀, news'.filter (fun p => p.1 != C.L), ⟨nL.ns (N' _ hL).1, f'.keep, fr.above⟩, fun p hp => ?_, ?_, hm, fun a ao ha => ?_, fun p hp => ?_, fun a ao ha p hp => x'.2 a ao ha p (.tail _ hp)⟩
  · rw [List.mem_filter] at hp
    exact ⟨(N' p hp.1).1, by simpa using hp.2, (N' p hp.1).2.2⟩
  · exact List.Nodup.sublist (List.Sublist.map _ (List.filter_sublist)) ND'
  · obtain ⟨o, hmo, hi⟩ := q' a ao ha
    exact ⟨o, List.mem_filter.mpr ⟨hmo, by simpa using (x'.2 a ao ha _ (.head _)).symm⟩, hi⟩
  · obtain ⟨o, hmo, hi⟩ := x'.1 p (.tail _ hp)
    exact ⟨o, List.mem_filter.mpr ⟨hmo, by simpa using ne p hp⟩, hi⟩
/-- the ground of a new block -/
theorem At.under {F : FnS} {C : Cx} {σ : St} {s : Shared} (h : At F C σ s) : ∃ m₀ oL news, Led F C s.heap σ m₀ news ∧ s.heap.get? C.L = some oL ∧ NsObj oL m₀ ∧ C.g.get? C.L = none ∧ C.g.objs.size ≤ s.heap.objs.size ∧ (((C.L, oL) :: news).map (·.1)).Nodup ∧ (∀ p ∈ (C.L, oL) :: news, s.heap.get? p.1 = some p.2 ∧ C.g.get? p.1 = none) ∧ OutOk ((C.L, m₀) :: C.outs) ((C.L, oL) :: news) σ.H := by
  obtain ⟨m₀, news, f, N, ND, e, q, x⟩ := id h.led
  obtain ⟨oL, hL, nL⟩ := ns_obj f.ns
  have gL : C.g.get? C.L = none := by
    cases z : C.g.get? C.L with
    | none => rfl
    | some o => exact absurd (Heap.lt_size z) (Nat.not_lt.mpr f.above)
  refine ⟨m₀, oL, news, ⟨f, N, ND, e, q, x⟩, hL, nL, gL, Nat.le_of_lt (Nat.lt_of_le_of_lt f.above (Heap.lt_size hL)), ?_, fun p hp => ?_, fun p hp => ?_, fun a ao ha p hp => ?_⟩
  · rw [List.map_cons, List.nodup_cons]
    refine ⟨fun hm => ?_, ND⟩
    obtain ⟨p, hp, z⟩ := List.mem_map.mp hm
    exact (N p hp).2.1 z
  · rcases List.mem_cons.mp hp with rfl | hp
    · exact ⟨hL, gL⟩
    · exact ⟨(N p hp).1, (N p hp).2.2⟩
  · rcases List.mem_cons.mp hp with rfl | hp
    · exact ⟨oL, .head _, nL⟩
    · obtain ⟨o, hm, hi⟩ := x.1 p hp; exact ⟨o, .tail _ hm, hi⟩
  · rcases List.mem_cons.mp hp with rfl | hp
    · obtain ⟨o, hm, hi⟩ := q a ao ha; exact fun z => (N _ hm).2.1 z.symm
    · exact x.2 a ao ha p hp

theorem lookup_unique {x : Str} {v : Value} : ∀ {l : List (Str × Value)}, (x, v) ∈ l → (∀ v', (x, v') ∈ l → v' = v) → l.lookup x = some v
  | [], h, _ => nomatch h
  | (y, u) :: r, h, k => by
    by_cases e : x = y
    · subst e
      have := k u (.head _)
      simp [this]
    · have hb : (x == y) = false := by simpa using e
      simp only [List.lookup, hb]
      refine lookup_unique ?_ fun v' hv' => k v' (.tail _ hv')
      rcases List.mem_cons.mp h with z | z
      · cases z; exact absurd rfl e
      · exact z
theorem zip_lookup {x : Str} {v : Value} {ps : List Str} {vs : List Value} {i : Nat} (hN : ps.Nodup) (h1 : ps[i]? = some x) (h2 : vs[i]? = some v) : (ps.zip vs).reverse.lookup x = some v := by
  refine lookup_unique ?_ fun v' hv' => ?_
  · rw [List.mem_reverse]
    have hz : (ps.zip vs)[i]? = some (x, v) := by rw [List.getElem?_zip_eq_some]; exact ⟨h1, h2⟩
    exact List.mem_of_getElem? hz
  · rw [List.mem_reverse] at hv'
    obtain ⟨j, hj⟩ := List.getElem?_of_mem hv'
    rw [List.getElem?_zip_eq_some] at hj
    have hi : i < ps.length := (List.getElem?_eq_some_iff.mp h1).1
    have := (List.getElem?_inj hi hN).mp (h1.trans hj.1.symm)
    subst this
    rw [h2] at hj
    exact (Option.some.inj hj.2).symm

section
variable {F F' : FnS} {C : Cx} {σ : St} {s : Shared} {A : Around} {R : Result → Shared → Prop} {f : Addr} {fo : Obj} {fd : FuncData} {ps : List Str} {body : List Stmt} {vs : List Value}

noncomputable def startM (F' : FnS) (vs : List Value) : List (Option AV) := vs.map (fun v => some (er v)) ++ List.replicate (F'.nm.length - vs.length) none

theorem am_callX (h : At F C σ s) (hf : s.heap.get? f = some fo) (hd : fo.data = .func fd) (S : FnK F' ps body fd) (hc : s.heap.CodeRec fd.code fd.qualname) (hl : vs.length = ps.length) (hroom : A.depth < recursionLimit) (fa : List Addr)
    (hfv : ∀ (i : Nat) x c, F'.fv[i]? = some x → fa[i]? = some c → fd.closure.lookup x = some c)
    (k : ∀ C' s', C'.w = C.w → C'.fa = fa → C'.env.frame = some C'.L → (∀ fs, Stk A C fs → Stk (A.deeper C'.env) C' (C'.env :: fs)) → At F' C' ⟨startM F' vs, σ.H⟩ s' →
      Wp C'.w (A.deeper C'.env) (execs body C'.env) (Back F C σ F' C' R) (LeaveE C.w A C'.env R) s') :
    Cd C.w A (.call (.ref f) ⟨vs, []⟩) R s := by
  refine ⟨?_⟩
  obtain ⟨m₀, oL, news, ⟨lf, N, ND, e, q, x⟩, hL, nL, gL, gsz, ND2, N2, x2⟩ := id h.under
  obtain ⟨p, l, me, mg, mb, T, hT⟩ := h.gnd.top
  obtain ⟨r, hr⟩ := S.par
  have hpN : ps.Nodup := by have := S.nmN; rw [hr, List.nodup_append] at this; exact this.1
  refine codeAny_call_def (fd := fd) (body := body) (binds := ps.zip vs) hroom hf hd (T.nolimit.keeps lf.keep) hc S.body (BindsTo.of_eq (S.bind vs hl)) S.cell (fun y hy => ?_) (fun h₁ hns hk₁ => ?_) S.co S.gen S.kind
  · obtain ⟨i, hi⟩ := List.getElem?_of_mem (List.of_mem_zip hy).1
    have : F'.nm[i]? = some y.1 := by
      rw [hr, List.getElem?_append_left (List.getElem?_eq_some_iff.mp hi).1]; exact hi
    exact (S.nm i y.1 this).1
  · let C' : Cx := ⟨C.w, C.g, C.os, callEnv fd s.heap.objs.size f, [], fa, (C.L, m₀) :: C.outs⟩
    have FF : Fr C'.g C'.L h₁ (fun x => (ps.zip vs).reverse.lookup x) := ⟨hns, fun b o e => hk₁ b o (lf.keep b o e), gsz⟩
    have hA : At F' C' ⟨startM F' vs, σ.H⟩ { s with heap := h₁, toks := s.toks + (ps.zip vs).length } := by
      refine ⟨h.gens, h.os, h.gnd, ⟨S.kind, S.glob, S.blt, S.nm, S.nmN, fun i x hx => ?_, fun i x hx => ⟨(S.fv i x hx).1, (S.fv i x hx).2.1, (S.fv i x hx).2.2, fun c hc => hfv i x c hx hc⟩, S.gl⟩, _, (C.L, oL) :: news, FF,
        (fun p hp => ⟨hk₁ _ _ (N2 p hp).1, Nat.ne_of_lt (Heap.lt_size (N2 p hp).1), (N2 p hp).2⟩), ND2, fun i x av hx hv => ?_, fun a ao ha => ?_, x2⟩
      · rw [S.cv] at hx; simp at hx
      · dsimp only [startM] at hv
        by_cases hi : i < vs.length
        · rw [List.getElem?_append_left (by simpa using hi)] at hv
          rw [List.getElem?_map] at hv
          rw [List.getElem?_eq_getElem hi] at hv
          simp only [Option.map_some, Option.some.injEq] at hv
          refine ⟨vs[i], zip_lookup hpN ?_ (List.getElem?_eq_getElem hi), hv⟩
          rw [hr, List.getElem?_append_left (by omega)] at hx
          exact hx
        · rw [List.getElem?_append_right (by simp; omega)] at hv
          rw [List.getElem?_replicate] at hv
          split at hv <;> cases hv
      · obtain ⟨o, hm, hi⟩ := q a ao ha; exact ⟨o, .tail _ hm, hi⟩
    have hB : ∀ fs, Stk A C fs → Stk (A.deeper C'.env) C' (C'.env :: fs) := fun fs hb => by
      refine ⟨Around.frames_deeper hb.fr, fun e he => ?_⟩
      rcases List.mem_cons.mp he with rfl | he
      · exact ⟨S.kind, _, rfl, .inl rfl⟩
      · obtain ⟨k1, L, k2, k3⟩ := hb.env e he
        refine ⟨k1, L, k2, .inr ?_⟩
        rcases k3 with rfl | ⟨p, hp, rfl⟩
        · exact ⟨_, .head _, rfl⟩
        · exact ⟨p, .tail _ hp, rfl⟩
    refine wpAny_mono (k C' _ rfl rfl rfl hB hA).ok (fun fl s' hl' => ?_) fun _ _ y => y
    obtain ⟨σ', h', kk⟩ := hl'
    have := kk (At.leave (C' := C') h e rfl rfl rfl h')
    cases fl <;> exact this

theorem am_callN (h : At F C σ s) (hf : s.heap.get? f = some fo) (hd : fo.data = .func fd) (S : FnK F' ps body fd) (hc : s.heap.CodeRec fd.code fd.qualname) (hl : vs.length = ps.length) (hroom : A.depth < recursionLimit) (fa : List Addr)
    (hfv : ∀ (i : Nat) x c, F'.fv[i]? = some x → fa[i]? = some c → fd.closure.lookup x = some c)
    (k : ∀ C' s' E, C'.w = C.w → C'.fa = fa → At F' C' ⟨startM F' vs, σ.H⟩ s' → Wp C'.w (A.deeper C'.env) (execs body C'.env) (Back F C σ F' C' R) E s') :
    Cd C.w A (.call (.ref f) ⟨vs, []⟩) R s := am_callX h hf hd S hc hl hroom fa hfv fun C' s' hw hfa _ _ h' => k C' s' _ hw hfa h'
end
end Mine

end
section
open PySem PySem.W PyProof.Rows PySem.Calls
namespace Mine

noncomputable def pBody : List Stmt := PySem.Challenge.pw_pk0037_01.main.body
noncomputable def subs : Stmt → List Stmt
  | .FunctionDef _ _ b _ _ _ _ _ _ _ => b
  | .ClassDef _ _ _ b _ _ _ _ _ _ _ => b
  | _ => []
noncomputable def nth (l : List Stmt) (i : Nat) : Stmt := l.getD i (.Pass ⟨0, 0, 0, 0⟩)
noncomputable def fdK (w : World) (a : Addr) : FuncData := match (KK w).lookup a with
  | some ⟨_, _, .func fd, _⟩ => fd
  | _ => default
noncomputable def obK (w : World) (a : Addr) : Obj := ((KK w).lookup a).getD default

noncomputable def chkNames (sc : Scope) (k : NameKind) (l : List Str) : Bool := l.all fun x => sc.names.lookup x == some k && !(x == ("__debug__" : Str)) && !(x == ("__classdict__" : Str))
noncomputable def nodupB : List Str → Bool
  | [] => true
  | x :: r => !r.contains x && nodupB r
theorem nodupB_of : ∀ {l : List Str}, nodupB l = true → l.Nodup
  | [], _ => .nil
  | x :: r, h => by
    simp only [nodupB, Bool.and_eq_true, Bool.not_eq_true'] at h
    rw [List.nodup_cons]
    exact ⟨fun z => absurd (List.contains_iff_mem.mpr z) (by rw [h.1]; exact Bool.false_ne_true), nodupB_of h.2⟩
noncomputable def chk (F : FnS) (ps : List Str) (fd : FuncData) : Bool :=
  fd.scope.kind == .function && !fd.scope.isCoroutine && !fd.scope.isGenerator && fd.scope.names.all (fun x => x.2 != .cell) && nodupB F.nm && F.cv.isEmpty && (F.nm.take ps.length == ps) &&
  chkNames fd.scope .local F.nm && chkNames fd.scope .free F.fv && chkNames fd.scope .globalImplicit F.gl
theorem chkNames_of {sc : Scope} {k : NameKind} {l : List Str} (h : chkNames sc k l = true) {i : Nat} {x : Str} (hx : l[i]? = some x) : sc.names.lookup x = some k ∧ (x == ("__debug__" : Str)) = false ∧ (x == ("__classdict__" : Str)) = false := by
  have := List.all_eq_true.mp h x (List.mem_of_getElem? hx)
  simp only [Bool.and_eq_true, Bool.not_eq_true', beq_iff_eq] at this
  exact ⟨this.1.1, this.1.2, this.2⟩
theorem FnK.of {F : FnS} {ps : List Str} {body : List Stmt} {fd : FuncData} (hb : fd.body = .stmts body) (hg : fd.globals = mainGlobals) (hbl : fd.builtins = builtinsNs) (c : chk F ps fd = true)
    (bind : ∀ vs : List Value, vs.length = ps.length → bindArgs fd ⟨vs, []⟩ = pure (ps.zip vs)) : FnK F ps body fd := by
  simp only [chk, Bool.and_eq_true, beq_iff_eq, Bool.not_eq_true', List.isEmpty_iff] at c
  obtain ⟨⟨⟨⟨⟨⟨⟨⟨⟨c1, c2⟩, c3⟩, c4⟩, c5⟩, c6⟩, c7⟩, c8⟩, c9⟩, c10⟩ := c
  exact ⟨hb, hg, hbl, c1, c2, c3, fun x hx => by have := List.all_eq_true.mp c4 x hx; simpa using this, bind, ⟨F.nm.drop ps.length, by conv => lhs; rw [← List.take_append_drop ps.length F.nm, c7]⟩,
    fun i x hx => ⟨(chkNames_of c8 hx).1, (chkNames_of c8 hx).2.1⟩, nodupB_of c5, c6, fun i x hx => chkNames_of c9 hx, fun i x hx => ⟨(chkNames_of c10 hx).1, (chkNames_of c10 hx).2.1⟩⟩

section
variable {F F' : FnS} {C : Cx} {σ : St} {s : Shared} {A : Around} {R : Result → Shared → Prop} {f : Addr} {ps : List Str} {body : List Stmt} {vs : List Value}
/-- a call of a function of the text's -/
theorem am_fn (h : At F C σ s) (hK : (KK C.w).lookup f = some (obK C.w f)) (hd : (obK C.w f).data = .func (fdK C.w f)) (S : FnK F' ps body (fdK C.w f)) (hc : codeIn (KK C.w) (fdK C.w f).code (fdK C.w f).qualname = true) (hl : vs.length = ps.length) (hroom : A.depth < recursionLimit)
    (hfv : F'.fv = [])
    (k : ∀ C' s' E, C'.w = C.w → At F' C' ⟨startM F' vs, σ.H⟩ s' → Wp C'.w (A.deeper C'.env) (execs body C'.env) (Back F C σ F' C' R) E s') :
    Cd C.w A (.call (.ref f) ⟨vs, []⟩) R s :=
  am_callN h (h.K _ _ hK) hd S (codeRec_of h.K hc) hl hroom [] (fun i x c hx _ => by rw [hfv] at hx; simp at hx) fun C' s' E hw _ h' => k C' s' E hw h'
end

/-- the way back, in hand -/
theorem back_ret {F F' : FnS} {C C' : Cx} {σ σ' : St} {s : Shared} {R : Result → Shared → Prop} {v : Value} (h : At F' C' σ' s) (k : At F C ⟨σ.m, σ'.H⟩ s → R (.ok (.ret v)) s) : Back F C σ F' C' R (.ret v) s := ⟨σ', h, k⟩
theorem back_next {F F' : FnS} {C C' : Cx} {σ σ' : St} {s : Shared} {R : Result → Shared → Prop} (h : At F' C' σ' s) (k : At F C ⟨σ.m, σ'.H⟩ s → R (.ok (.ret .none)) s) : Back F C σ F' C' R .next s := ⟨σ', h, k⟩
end Mine

end
section
open PySem PySem.W PyProof.Rows PySem.Calls
namespace Mine

/-- room for n frames more -/
structure Rm (A : Around) (n : Nat) : Prop where
  depth : A.depth + n < 1000
  units : A.units + 8 * n < 9900
  hand : A.handled = none
theorem Rm.dp {A : Around} {n : Nat} (h : Rm A n) : A.depth < recursionLimit := by have := h.depth; show A.depth < 1000; omega
theorem Rm.deeper {A : Around} {n : Nat} {env : Env} (h : Rm A (n + 1)) : Rm (A.deeper env) n := ⟨by rw [depth_deeper]; have := h.depth; omega, by rw [units_deeper]; have := h.units; omega, h.hand⟩
theorem Rm.make {A : Around} {n : Nat} {C : Addr} {vals : List Value} (h : Rm A (n + 1)) : Rm (A.under (.builtin "type.__call__" ⟨.ref C :: vals, []⟩)) n :=
  ⟨by rw [depth_under_make]; have := h.depth; omega, by have := h.units; show A.units + (1 + 3 * _) + _ < _; have : Code.frames (.builtin "type.__call__" ⟨.ref C :: vals, []⟩) ≤ 1 := Nat.le_of_ble_eq_true rfl
                                                        omega, h.hand⟩
theorem Rm.less {A : Around} {n m : Nat} (h : Rm A n) (hm : m ≤ n) : Rm A m := ⟨by have := h.depth; omega, by have := h.units; omega, h.hand⟩

section
variable {w : World} {A : Around} {E : Value → Shared → Prop} {s : Shared} {env : Env} {pos : Pos} {first : List Value} {Q : Value → Shared → Prop}
noncomputable def CwQ (w : World) (A : Around) (env : Env) (args : List Expr) (pos : Pos) (Q E : Value → Shared → Prop) : Value → Shared → Prop := fun f s₁ => Wp w A (callWith pos f [] (backTo pos (starEach args env)) []) Q E s₁
noncomputable def BaQ (w : World) (A : Around) (f : Value) (first : List Value) (Q E : Value → Shared → Prop) : List Value → Shared → Prop := fun vs s₁ => Wp w A (call f (first ++ vs)) Q E s₁
noncomputable def TaQ (w : World) (A : Around) (T : String) (Q E : Value → Shared → Prop) : List Value → Shared → Prop := fun vs s₁ => Wp w A (call (.type T) vs) Q E s₁
noncomputable def LiQ (w : World) (A : Around) (Q E : Value → Shared → Prop) : List Value → Shared → Prop := fun vs s₁ => Wp w A (newList vs) Q E s₁
noncomputable def TuQ (w : World) (A : Around) (Q E : Value → Shared → Prop) : List Value → Shared → Prop := fun vs s₁ => Wp w A (newTuple vs) Q E s₁
theorem wp_callx {func : Expr} {args : List Expr} (h : Wp w A (eval func env) (CwQ w A env args pos Q E) E s)
    (he : eval (.Call func args [] pos) env = (do callWith pos (← eval func env) [] (backTo pos (starEach args env)) (backToKw pos (keywordEach [] env))) := by rfl) : Wp w A (eval (.Call func args [] pos) env) Q E s := ⟨Call_ (h.up fun _ _ x => x.ok) he⟩
noncomputable def FnAt (f : Addr) (h : Heap) : Prop := ∃ o fd, h.get? f = some o ∧ o.data = .func fd
theorem keeps_fn {M : Model} {f : Addr} (h : Heap) (X : FnAt f h) : ∃ k, (k = Keeper.frame ∨ k = Keeper.machine ∨ k = Keeper.boundFrame) ∧ Looks M h (keeperOf (.ref f)) k := by
  obtain ⟨o, fd, e, hd⟩ := X
  refine ⟨.frame, .inl rfl, (Looks.ld (part := none) e).andThen ?_⟩
  rw [hd]
  exact .now
theorem wp_fnargs {f : Addr} {e : Expr} {rest : List Expr} (h : Wp w A (spliced (backTo pos (starEach (e :: rest) env))) (fun vs s₁ => FnAt f s₁.heap ∧ Wp w A (call (.ref f) (first ++ vs)) Q E s₁) E s)
    (he : starEach (e :: rest) env = (false, eval e env) :: starEach rest env := by rfl) (hplain : (backTo pos (starEach rest env)).any (·.1) = false := by rfl) :
    Wp w A (callWith pos (.ref f) first (backTo pos (starEach (e :: rest) env)) []) Q E s := by
  refine ⟨?_⟩
  have h' := h.up (Q' := fun vs s₁ => FnAt f s₁.heap ∧ wpAny (model PP w) A (call (.ref f) (first ++ vs)) Q E s₁) fun _ _ x => ⟨x.1, x.2.ok⟩
  rw [he] at h' ⊢
  exact callWith_of (by show ((false || (backTo pos (starEach rest env)).any (·.1)) || false) = false; rw [hplain]; rfl) keeps_fn (evalArgs_plain h')
theorem wp_fnargs0 {f : Addr} (hf : FnAt f s.heap) (h : Wp w A (call (.ref f) (first ++ [])) Q E s) : Wp w A (callWith pos (.ref f) first (backTo pos (starEach [] env)) []) Q E s :=
  ⟨callWith_of rfl keeps_fn (evalArgs_nil3 ⟨hf, h.ok⟩)⟩
theorem wp_clsargs {C : Addr} {e : Expr} {rest : List Expr} (hk : keepIn (KK w) (.ref C) = true) (h : Wp w A (spliced (backTo pos (starEach (e :: rest) env))) (fun vs s₁ => (KK w).In s₁.heap ∧ Wp w A (call (.ref C) (first ++ vs)) Q E s₁) E s)
    (he : starEach (e :: rest) env = (false, eval e env) :: starEach rest env := by rfl) (hplain : (backTo pos (starEach rest env)).any (·.1) = false := by rfl) :
    Wp w A (callWith pos (.ref C) first (backTo pos (starEach (e :: rest) env)) []) Q E s := by
  refine ⟨?_⟩
  have h' := h.up (Q' := fun vs s₁ => (KK w).In s₁.heap ∧ wpAny (model PP w) A (call (.ref C) (first ++ vs)) Q E s₁) fun _ _ x => ⟨x.1, x.2.ok⟩
  rw [he] at h' ⊢
  exact callWith_of (by show ((false || (backTo pos (starEach rest env)).any (·.1)) || false) = false; rw [hplain]; rfl) (keeps_K hk) (evalArgs_plain h')
theorem wp_bargs {id : String} {e : Expr} {rest : List Expr} (h : Wp w A (spliced (backTo pos (starEach (e :: rest) env))) (BaQ w A (.builtin id) first Q E) E s)
    (he : starEach (e :: rest) env = (false, eval e env) :: starEach rest env := by rfl) (hplain : (backTo pos (starEach rest env)).any (·.1) = false := by rfl) :
    Wp w A (callWith pos (.builtin id) first (backTo pos (starEach (e :: rest) env)) []) Q E s := ⟨callWith_method1 (h.up fun _ _ x => x.ok) he hplain⟩
theorem wp_targs {T : String} {e : Expr} {rest : List Expr} (h : Wp w A (spliced (backTo pos (starEach (e :: rest) env))) (TaQ w A T Q E) E s)
    (he : starEach (e :: rest) env = (false, eval e env) :: starEach rest env := by rfl) (hplain : (backTo pos (starEach rest env)).any (·.1) = false := by rfl) :
    Wp w A (callWith pos (.type T) [] (backTo pos (starEach (e :: rest) env)) []) Q E s := ⟨PyProof.Rows.callWith_type1 (h.up fun _ _ x => x.ok) he hplain⟩
theorem wp_list {elts : List Expr} (h : Wp w A (spliced (backTo pos (starEach elts env))) (LiQ w A Q E) E s) : Wp w A (eval (.List elts pos) env) Q E s := ⟨List_ (h.up fun _ _ x => x.ok)⟩
theorem wp_tuple {elts : List Expr} {k : Nat} (h : Wp w A (spliced (backTo pos (starEach elts env))) (TuQ w A Q E) E s) : Wp w A (eval (.Tuple elts k pos) env) Q E s := ⟨Tuple_ (h.up fun _ _ x => x.ok)⟩
theorem wp_slice {lower upper step : Option Expr} {p : Pos} (h : Wp w A (evalPart lower env) (fun l s₁ => Wp w A (evalPart upper env) (fun u s₂ => Wp w A (evalPart step env) (fun st s₃ =>
      Q (.ref s₃.heap.objs.size) { s₃ with heap := s₃.heap.push { cls := .type "slice", data := .fields #[l, u, st] } }) E s₂) E s₁) E s) :
    Wp w A (eval (.Slice lower upper step p) env) Q E s := ⟨wpAny_Slice (h.up fun _ _ x => x.up fun _ _ x => x.ok)⟩
theorem wp_pnone (h : Q .none s) : Wp w A (evalPart none env) Q E s := ⟨evalPart_none_step h⟩
theorem wp_psome {e : Expr} (h : Wp w A (eval e env) Q E s) : Wp w A (evalPart (some e) env) Q E s := ⟨evalPart_some_step h.ok⟩
/-- a statement whose value is dropped -/
theorem wp_expr {e pos} {Q : Flow → Shared → Prop} (h : Wp w A (eval e env) (fun _ s' => Q .next s') E s)
    (hi : interactive env = false := by rfl) (hs : swapsWith e none pos.line env = pure false := by rfl) : Wp w A (exec (.Expr e pos) env) Q E s := by
  refine ⟨?_⟩
  rw [exec_Expr env e pos hi hs]
  refine wpAny_bind (wpAny_standAt (wpAny_bind (h.up fun v s' q => ?_)))
  have key : wpAny (model PP w) A (do standAt pos; let _ ← runValue (.builtin "proto.let_go" {}); pure Flow.next) Q E s' := by
    refine wpAny_bind (wpAny_standAt (wpAny_bind (wpAny_runValue (codeAny_builtin entry_let_go ?_))))
    exact wpAny_pure (wpAny_pure q)
  unfold dropValue
  split
  · exact wpAny_pure q
  · exact key
  · exact wpAny_pure q
end

section
variable {F : FnS} {C : Cx} {σ : St} {s : Shared} {A : Around} {E : Value → Shared → Prop} {Q : Value → Shared → Prop}
theorem At.fnAt (h : At F C σ s) {f : Addr} (hf : fnIn (KK C.w) f = true) : FnAt f s.heap := by
  unfold fnIn at hf
  split at hf
  · rename_i e; exact ⟨_, _, h.K _ _ e, rfl⟩
  · cases hf
theorem am_newlist {vs : List Value} (h : At F C σ s) (hz : vs.length ≤ 1000000) (k : ∀ D s', σ.H D = none → At F C (σ.put D (.list (vs.map er))) s' → Q (.ref D) s') : Wp C.w A (newList vs) Q E s := by
  refine ⟨wpAny_newObj_type (k _ _ (h.fresh (Nat.le_refl _)) (h.new (s' := { s with heap := s.heap.push _ }) rfl rfl (fun b o e => Heap.get?_push_of_some _ e) (Heap.get?_push_size _ rfl) ⟨vs, 0, rfl, rfl⟩ (Nat.le_refl _))) ?_⟩
  show vs.toArray.size ≤ sizeLine
  rw [List.size_toArray, sizeLine_eq]; omega
theorem am_newtuple {vs : List Value} (h : At F C σ s) (hz : vs.length ≤ 1000000) (k : ∀ D s', σ.H D = none → At F C (σ.put D (.tuple (vs.map er))) s' → Q (.ref D) s') : Wp C.w A (newTuple vs) Q E s := by
  refine ⟨wpAny_newObj_type (k _ _ (h.fresh (Nat.le_refl _)) (h.new (s' := { s with heap := s.heap.push _ }) rfl rfl (fun b o e => Heap.get?_push_of_some _ e) (Heap.get?_push_size _ rfl) ⟨vs, 0, rfl, rfl⟩ (Nat.le_refl _))) ?_⟩
  show vs.toArray.size ≤ sizeLine
  rw [List.size_toArray, sizeLine_eq]; omega
/-- an object of a class is made -/
theorem am_make {Cl fI : Addr} {vs : List Value} {R : Result → Shared → Prop} (h : At F C σ s) (hm : makesIn (KK C.w) Cl = true) (hi : findIn (KK C.w) (.ref Cl) "__init__" = some (some (.ref fI))) (hf : typeIn (KK C.w) (.ref fI) = some (.type "function"))
    (k : ∀ x dx s', σ.H dx = none → σ.H x = none → dx ≠ x → At F C ((σ.put dx (.attrs [] [])).put x (.inst Cl dx)) s' →
      Cd C.w (A.under (.builtin "type.__call__" ⟨.ref Cl :: vs, []⟩)) (.call (.ref fI) ⟨.ref x :: vs, []⟩) (InitBack x R) s') : Cd C.w A (.call (.ref Cl) ⟨vs, []⟩) R s := by
  refine ⟨?_⟩
  obtain ⟨m₀, news, f, N, ND, e, q, xo⟩ := id h.led
  refine make_K f N h.K hm hi hf fun x dx h' f' N' l1 l2 => ?_
  have n1 : ∀ p ∈ news, p.1 ≠ dx := fun p hp => Nat.ne_of_lt (l1 p hp)
  have n2 : ∀ p ∈ news, p.1 ≠ x := fun p hp => Nat.ne_of_lt (Nat.lt_trans (l1 p hp) l2)
  have no : ∀ a, (∀ p ∈ news, p.1 ≠ a) → σ.H a = none := fun a ha => by
    cases z : σ.H a with
    | none => rfl
    | some ao => obtain ⟨o, hm, _⟩ := q a ao z; exact absurd rfl (ha _ hm)
  refine (k x dx { s with heap := h' } (no dx n1) (no x n2) (Nat.ne_of_lt l2) ⟨h.gens, h.os, h.gnd, h.env, m₀, _, f', N', ?_, e, fun a ao ha => ?_, fun p hp => ?_, fun a ao ha p hp => ?_⟩).ok
  · simp only [List.map_cons, List.nodup_cons, List.mem_cons, List.mem_map, not_or]
    exact ⟨⟨Ne.symm (Nat.ne_of_lt l2), fun ⟨p, hp, z⟩ => n2 p hp z⟩, fun ⟨p, hp, z⟩ => n1 p hp z, ND⟩
  · unfold St.put hput at ha
    dsimp only at ha
    split at ha
    · rename_i z; cases ha; subst z; exact ⟨_, .head _, rfl⟩
    · split at ha
      · rename_i z; cases ha; subst z; exact ⟨_, .tail _ (.head _), [], 0, rfl, rfl, rfl, .nil⟩
      · obtain ⟨o, hm, hi⟩ := q a ao ha; exact ⟨o, .tail _ (.tail _ hm), hi⟩
  · obtain ⟨o, hm, hi⟩ := xo.1 p hp; exact ⟨o, .tail _ (.tail _ hm), hi⟩
  · obtain ⟨o, hm, hi⟩ := xo.1 p hp
    unfold St.put hput at ha
    dsimp only at ha
    split at ha
    · rename_i z; subst z; exact n2 _ hm
    · split at ha
      · rename_i z; subst z; exact n1 _ hm
      · exact xo.2 a ao ha p hp
end

section
variable {F : FnS} {C : Cx} {σ : St} {s : Shared} {A : Around} {E : Value → Shared → Prop} {Q : Value → Shared → Prop} {l : Addr} {xs : List AV}
theorem At.plainL (h : At F C σ s) (hl : σ.H l = some (.list xs)) : ∃ vs : List Value, PlainL s.heap l vs.toArray ∧ vs.map er = xs := by
  obtain ⟨o, ho, ⟨vs, n, rfl, e4⟩, _⟩ := h.get hl
  exact ⟨vs, ⟨_, n, ho, rfl, rfl, rfl⟩, e4⟩
theorem At.isList (h : At F C σ s) (hl : σ.H l = some (.list xs)) : ∃ vs : List Value, s.heap.IsList l vs.toArray ∧ vs.map er = xs :=
  let ⟨vs, a, b⟩ := h.plainL hl; ⟨vs, a.isList, b⟩
theorem At.isVec (h : At F C σ s) (hl : σ.H l = some (.vec xs)) : ∃ vs : List Value, s.heap.IsList l vs.toArray ∧ vs.map er = xs := by
  obtain ⟨o, ho, ⟨vs, n, e1, e3, e4⟩, _⟩ := h.get hl
  exact ⟨vs, ⟨o, ho, e1, n, e3⟩, e4⟩
theorem am_mappend {Q : Value × List Value → Shared → Prop} {pl : Sem Bool} (h : At F C σ s) (hl : σ.H l = some (.list xs)) (k : Q (.builtin "list.append", [.ref l]) s) : Wp C.w A (getMethod (.ref l) "append" pl) Q E s := by
  obtain ⟨vs, ⟨o, n, e1, e2, e3, e4⟩, _⟩ := h.plainL hl
  exact ⟨getMethod_list_append e1 e2 e3 k⟩
theorem am_append {v : Value} (h : At F C σ s) (hl : σ.H l = some (.list xs)) (hz : xs.length ≤ 1000000) (k : ∀ s', At F C (σ.put l (.list (xs ++ [er v]))) s' → Q .none s') : Wp C.w A (call (.builtin "list.append") [.ref l, v]) Q E s := by
  obtain ⟨o, ho, ⟨vs, n, rfl, e⟩, _⟩ := h.get hl
  refine ⟨append_at ho (fun h' hs ho' => k _ (h.upd hl rfl rfl (fun b o hb e => hs.extBut b o hb e) ho' ⟨vs ++ [v], n + 1, ?_, by simp [e]⟩)) ?_⟩
  · simp
  · rw [List.size_toArray, sizeLine_eq]; have := congrArg List.length e; simp at this; omega
theorem am_len (h : At F C σ s) (hl : σ.H l = some (.list xs)) (hz : xs.length ≤ 1000000) (k : ∀ v s', At F C σ s' → er v = .int xs.length → Q v s') : Wp C.w A (call (.builtin "len") [.ref l]) Q E s := by
  obtain ⟨vs, il, e⟩ := h.isList hl
  have hn : vs.length = xs.length := by have := congrArg List.length e; simpa using this
  refine ⟨call_len_list il (by rw [List.size_toArray]; omega) (k _ _ (h.tok _) ?_)⟩
  show AV.int _ = _
  rw [List.size_toArray, hn]
theorem am_truthy_list {Q : Bool → Shared → Prop} (h : At F C σ s) (hl : σ.H l = some (.list xs)) (hz : xs.length ≤ 1000000) (k : ∀ s', At F C σ s' → Q (!xs.isEmpty) s') : Wp C.w A (truthy (.ref l)) Q E s := by
  obtain ⟨vs, il, e⟩ := h.isList hl
  have hn : vs.length = xs.length := by have := congrArg List.length e; simpa using this
  refine ⟨wpAny_truthy_list il (by rw [List.size_toArray]; omega) ?_⟩
  have : (!vs.toArray.isEmpty) = !xs.isEmpty := by rw [← e]; cases vs <;> simp
  rw [this]
  exact k _ (h.tok _)
theorem item_get {vs : List Value} {i : Int} {av : AV} (e : vs.map er = xs) (h0 : 0 ≤ i) (hx : xs[i.toNat]? = some av) : ∃ v, vs.toArray[i.toNat]? = some v ∧ er v = av ∧ i < 2 ^ 63 ∨ ¬ i < 2 ^ 63 := by
  subst e
  rw [List.getElem?_map] at hx
  obtain ⟨v, h1, h2⟩ := Option.map_eq_some_iff.mp hx
  by_cases hi : i < 2 ^ 63
  · exact ⟨v, .inl ⟨by simpa using h1, h2, hi⟩⟩
  · exact ⟨v, .inr hi⟩
theorem am_item {iv : Value} {i : Int} {av : AV} (h : At F C σ s) (hl : σ.H l = some (.list xs) ∨ σ.H l = some (.vec xs)) (hi : er iv = .int i) (h0 : 0 ≤ i) (hx : xs[i.toNat]? = some av) (hb : i < 1000000000) (k : ∀ v, er v = av → Q v s) :
    Wp C.w A (getItem (.ref l) iv) Q E s := by
  have : ∃ vs : List Value, s.heap.IsList l vs.toArray ∧ vs.map er = xs := hl.elim h.isList h.isVec
  obtain ⟨vs, il, e⟩ := this
  obtain ⟨t, rfl⟩ := er_int hi
  obtain ⟨v, ⟨h1, h2, h3⟩ | h3⟩ := item_get e h0 hx
  · exact ⟨wpAny_getItem_list il h0 h3 h1 (k v h2)⟩
  · exact absurd (by omega) h3
theorem am_tailitem {value slice : Expr} {iv : Value} {i : Int} {av : AV} (h : At F C σ s) (hl : σ.H l = some (.list xs) ∨ σ.H l = some (.vec xs)) (hi : er iv = .int i) (h0 : 0 ≤ i) (hx : xs[i.toNat]? = some av) (hb : i < 1000000000) (k : ∀ v, er v = av → Q v s)
    (hs : subscripted slice false (.ref l) iv = operate [.ref l, iv] (getItem (.ref l) iv) := by with_unfolding_all rfl) : Wp C.w A (subscriptTail value slice (.ref l) iv) Q E s := by
  have : ∃ vs : List Value, s.heap.IsList l vs.toArray ∧ vs.map er = xs := hl.elim h.isList h.isVec
  obtain ⟨vs, il, e⟩ := this
  exact ⟨tail_any il.typeIs slot_list_getitem.lookup (am_item h hl hi h0 hx hb k).ok hs⟩
theorem am_setitem {Q : Unit → Shared → Prop} {iv v : Value} {i : Int} (h : At F C σ s) (hl : σ.H l = some (.vec xs)) (hi : er iv = .int i) (h0 : 0 ≤ i) (hx : i < xs.length) (hb : i < 1000000000) (k : ∀ s', At F C (σ.put l (.vec (xs.set i.toNat (er v)))) s' → Q () s') :
    Wp C.w A (setItem (.ref l) iv v) Q E s := by
  obtain ⟨vs, il, e⟩ := h.isVec hl
  obtain ⟨t, rfl⟩ := er_int hi
  have hn : vs.length = xs.length := by have := congrArg List.length e; simpa using this
  refine ⟨wpAny_setItem_list il h0 (by omega) (by rw [List.size_toArray]; omega) fun h' il' hs => k _ ?_⟩
  obtain ⟨o', e1, e2, n', e3⟩ := il'
  refine h.upd hl rfl rfl (fun b o hb e => hs.extBut b o hb e) e1 ⟨vs.set i.toNat v, n', e2, by rw [e3]; simp, by rw [List.map_set, e]⟩
end
end Mine

end
section
open PySem PySem.W PyProof.Rows PySem.Calls
namespace Mine

noncomputable def loOf (l : Option Int) (n : Nat) : Nat := match l with | none => 0 | some i => (max 0 (min (if i < 0 then i + n else i) n)).toNat
noncomputable def hiOf (u : Option Int) (n : Nat) : Nat := match u with | none => n | some i => (max 0 (min (if i < 0 then i + n else i) n)).toNat
theorem allC {α : Type} {P : α → Prop} {a : α} {l : List α} (h : P a) (t : ∀ x, x ∈ l → P x) : ∀ x, x ∈ a :: l → P x := List.forall_mem_cons.mpr ⟨h, t⟩
theorem allN {α : Type} {P : α → Prop} : ∀ x, x ∈ ([] : List α) → P x := nofun
theorem memI {α : Type} {a : α} {l : List α} (i : Nat) (h : l[i]? = some a) : a ∈ l := List.mem_of_getElem? h
theorem clampN (a n : Nat) : (max 0 (min (a : Int) n)).toNat = min a n := by
  rw [Int.max_eq_right (Int.le_min.mpr ⟨Int.natCast_nonneg _, Int.natCast_nonneg _⟩)]
  rcases Nat.le_total a n with h | h
  · rw [Nat.min_eq_left h, Int.min_eq_left (Int.ofNat_le.mpr h)]; rfl
  · rw [Nat.min_eq_right h, Int.min_eq_right (Int.ofNat_le.mpr h)]; rfl
theorem clampI {i : Int} (h : 0 ≤ i) (n : Nat) : (max 0 (min (if i < 0 then i + (n : Int) else i) n)).toNat = min i.toNat n := by
  rw [if_neg (Int.not_lt.mpr h)]
  obtain ⟨a, rfl⟩ := Int.eq_ofNat_of_zero_le h
  exact clampN a n
theorem clamp1 (n : Nat) : (max 0 (min (if (-1 : Int) < 0 then -1 + (n : Int) else -1) n)).toNat = n - 1 := by
  rw [if_pos (by decide)]
  cases n with
  | zero => rfl
  | succ m => rw [Int.natCast_succ, Int.add_comm, Int.add_neg_cancel_right]; exact (clampN m (m + 1)).trans (Nat.min_eq_left (Nat.le_succ m))
theorem clamp_le (i : Int) (n : Nat) : (max 0 (min i n)).toNat ≤ n := Int.toNat_le.mpr (Int.max_le.mpr ⟨Int.natCast_nonneg n, Int.min_le_right _ _⟩)
theorem hiOf_pos {i : Int} (h : 0 ≤ i) (n : Nat) : hiOf (some i) n = min i.toNat n := clampI h n
theorem loOf_ge {a n : Nat} (h : a ≤ n) : loOf (some (a : Int)) n = a := (clampI (Int.natCast_nonneg a) n).trans (Nat.min_eq_left h)
theorem hiOf_nat (a n : Nat) : hiOf (some (a : Int)) n = min a n := clampI (Int.natCast_nonneg a) n
theorem hiOf_neg1 (n : Nat) : hiOf (some (-1)) n = n - 1 := clamp1 n
theorem loOf_neg1 (n : Nat) : loOf (some (-1)) n = n - 1 := clamp1 n
theorem hiOf_le (u : Option Int) (n : Nat) : hiOf u n ≤ n := by
  cases u with
  | none => exact Nat.le_refl _
  | some i => exact clamp_le _ n
theorem loOf_le (u : Option Int) (n : Nat) : loOf u n ≤ n := by
  cases u with
  | none => exact Nat.zero_le _
  | some i => exact clamp_le _ n
theorem ediff (I J : Nat) : (if (I : Int) < J then ((J : Int) - I + 1 - 1) / 1 else 0).toNat = J - I := by
  split
  · rw [Int.ediv_one, Int.add_sub_cancel, Int.toNat_sub]
  · rename_i h
    exact (Nat.sub_eq_zero_of_le (Int.ofNat_le.mp (Int.not_lt.mp h))).symm
theorem erange (I J : Nat) : (List.range (if (I : Int) < J then ((J : Int) - I + 1 - 1) / 1 else 0).toNat).map (fun (k : Nat) => ((I : Int) + 1 * (k : Int)).toNat) = (List.range (J - I)).map (fun k => I + k) := by
  rw [ediff]
  refine List.map_congr_left fun k _ => ?_
  rw [Int.one_mul]; rfl
theorem clamp_nat (i : Int) (n : Nat) : max 0 (min i n) = (((max 0 (min i n)).toNat : Nat) : Int) := (Int.toNat_of_nonneg (Int.le_max_left _ _)).symm
theorem loZ (l : Option Int) (n : Nat) : ((loOf l n : Nat) : Int) = match l with | none => 0 | some i => max 0 (min (if i < 0 then i + (n : Int) else i) n) := by
  cases l with
  | none => rfl
  | some i => exact (clamp_nat _ n).symm
theorem hiZ (u : Option Int) (n : Nat) : ((hiOf u n : Nat) : Int) = match u with | none => (n : Int) | some i => max 0 (min (if i < 0 then i + (n : Int) else i) n) := by
  cases u with
  | none => rfl
  | some i => exact (clamp_nat _ n).symm
theorem slice_key (l u : Option Int) (n : Nat) : PySem.Builtin.Str.strSliceIndices l u 1 n = (List.range (hiOf u n - loOf l n)).map (fun k => loOf l n + k) := by
  rw [← erange, loZ, hiZ]
  cases l <;> cases u <;> rfl
theorem pick_key (l u : Option Int) (n : Nat) : sliceBounds l u none n = (((loOf l n : Nat) : Int), ((hiOf u n : Nat) : Int), 1) := by
  rw [loZ, hiZ]
  cases l <;> cases u <;> rfl
theorem filterMap_range (x : List Nat) (a : Nat) : ∀ n, a + n ≤ x.length → ((List.range n).map (fun k => a + k)).filterMap (fun i => x[i]?) = (x.drop a).take n := by
  intro n
  induction n with
  | zero => intro _; rfl
  | succ n ih =>
    intro h
    rw [List.range_succ, List.map_append, List.filterMap_append, ih (Nat.le_of_succ_le h), List.take_add_one]
    congr 1
    simp only [List.map_cons, List.map_nil, List.filterMap_cons, List.filterMap_nil, List.getElem?_drop]
    rw [List.getElem?_eq_getElem (show a + n < x.length from h)]
    rfl
theorem slice_list (x : List Nat) (l u : Option Int) : (Txt.slice ⟨x.toArray⟩ l u).cps.toList = (x.drop (loOf l x.length)).take (hiOf u x.length - loOf l x.length) := by
  have hlen : (⟨x.toArray⟩ : Str).length = x.length := rfl
  have hb := hiOf_le u x.length
  have hl := loOf_le l x.length
  unfold Txt.slice
  rw [hlen, slice_key]
  generalize loOf l x.length = I at *
  generalize hiOf u x.length = J at *
  simp only [List.length_map, List.length_range]
  split
  · rename_i z
    simp only [Bool.and_eq_true, beq_iff_eq] at z
    have hI : I = 0 := by omega
    have hh : J = x.length := by omega
    rw [hI, hh]; exact (List.take_length).symm
  · rcases Nat.le_total I J with hle | hle
    · have := filterMap_range x I (J - I) (by rw [Nat.add_sub_cancel' hle]; exact hb)
      simpa using this
    · rw [Nat.sub_eq_zero_of_le hle]; rfl
theorem neg1_nat (n : Nat) : ((-1 : Int) + n).toNat = n - 1 := by
  cases n with
  | zero => rfl
  | succ m => rw [Int.natCast_succ, Int.add_comm, Int.add_neg_cancel_right]; rfl

section
variable {F : FnS} {C : Cx} {σ : St} {s : Shared} {A : Around} {E : Value → Shared → Prop} {Q : Value → Shared → Prop} {a b o : Value} {x y : List Nat}
theorem tmp_str {value : Expr} {z : Str} {t : Tok} : ∀ r, letTemporaryGo value (.str z t) r = pure () := by intro r; cases value <;> rfl
theorem am_sslice {value : Expr} {le ue : Option Expr} {p : Pos} {l u : Value} {li ui : Option Int} (h : At F C σ s) (ho : er o = .str x) (hl : er l = (match li with | none => .none | some i => .int i)) (hu : er u = (match ui with | none => .none | some i => .int i)) (hz : x.length ≤ 1000000)
    (k : ∀ v s', At F C σ s' → er v = .str ((x.drop (loOf li x.length)).take (hiOf ui x.length - loOf li x.length)) → Q v s') :
    Wp C.w A (subscriptTail value (.Slice le ue none p) o (.ref s.heap.objs.size)) Q E { s with heap := s.heap.push { cls := .type "slice", data := .fields #[l, u, .none] } } := by
  refine ⟨?_⟩
  obtain ⟨t, rfl⟩ := er_str ho
  have hsz : (⟨x.toArray⟩ : Str).length ≤ sizeLine := by simp [Str.length, sizeLine_eq]; omega
  obtain ⟨m₀, news, f, N, ND, e, q⟩ := id h.led
  have hq : ∀ h' t' kk, Fr C.g C.L h' m₀ → News C.g C.L h' news → Q (.str (Txt.slice ⟨x.toArray⟩ li ui) t') { s with heap := h', toks := kk } := fun h' t' kk f' N' =>
    k _ _ ⟨h.gens, h.os, h.gnd, h.env, m₀, news, f', N', ND, e, q⟩ (by show AV.str _ = _; rw [slice_list])
  cases li with
  | none =>
    cases er_none hl
    cases ui with
    | none => cases er_none hu; exact slice_strN_nn f N hq rfl tmp_str hsz
    | some j => obtain ⟨_, rfl⟩ := er_int hu; exact slice_strN_ns f N hq rfl tmp_str hsz
  | some i =>
    obtain ⟨_, rfl⟩ := er_int hl
    cases ui with
    | none => cases er_none hu; exact slice_strN_sn f N hq rfl tmp_str hsz
    | some j => obtain ⟨_, rfl⟩ := er_int hu; exact slice_strN_ss f N hq rfl tmp_str hsz
theorem am_slen (h : At F C σ s) (ho : er o = .str x) (hz : x.length ≤ 1000000) (k : ∀ v s', At F C σ s' → er v = .int x.length → Q v s') : Wp C.w A (call (.builtin "len") [o]) Q E s := by
  obtain ⟨t, rfl⟩ := er_str ho
  have hl : (⟨x.toArray⟩ : Str).length = x.length := by simp [Str.length]
  refine ⟨PySem.P.len_str (by rw [hl]; omega) (k _ _ (h.tok _) ?_)⟩
  show AV.int _ = _
  rw [hl]
theorem am_sitem {value slice : Expr} {iv : Value} {i : Int} {c : Nat} (h : At F C σ s) (ho : er o = .str x) (hi : er iv = .int i) (h0 : 0 ≤ i) (hb : i < 1000000000) (hc : x[i.toNat]? = some c) (k : ∀ v s', At F C σ s' → er v = .str [c] → Q v s')
    (hs : subscripted slice false o iv = operate [o, iv] (getItem o iv) := by with_unfolding_all rfl) : Wp C.w A (subscriptTail value slice o iv) Q E s := by
  obtain ⟨t, rfl⟩ := er_str ho
  obtain ⟨u, rfl⟩ := er_int hi
  have hlt : i.toNat < x.length := (List.getElem?_eq_some_iff.mp hc).1
  refine ⟨tail_any (typeIs_str s _ t) PySem.F.slot_str_getitem.lookup (PySem.P.getItem_str (c := c) ?_ ?_ (k _ _ (h.tok _) rfl)) hs⟩
  · have h1 : ¬ i < -(2 ^ 63 : Int) := by omega
    have h2 : ¬ i ≥ 2 ^ 63 := by omega
    rw [decide_eq_false h1, decide_eq_false h2]; rfl
  · have hl : (⟨x.toArray⟩ : Str).length = x.length := by simp [Str.length]
    have e : PySem.seqIndex? i x.length = some i.toNat := by
      unfold PySem.seqIndex?
      have h1 : ¬ i < 0 := by omega
      have h2 : i < x.length := by omega
      simp [h1, h0, h2]
    rw [hl, e]
    simpa using hc
theorem am_in1 {c : Nat} (ha : er a = .str [c]) (ho : er o = .str x) (q : Q (.bool (decide (c ∈ x))) s) : Wp C.w A (compareOp .In a o) Q E s := by
  obtain ⟨t, rfl⟩ := er_str ha
  obtain ⟨u, rfl⟩ := er_str ho
  refine ⟨PySem.P.in_str ?_⟩
  have := StrLaws.found_one ⟨x.toArray⟩ c
  rw [this]
  simpa using q
theorem am_mjoin {Q : Value × List Value → Shared → Prop} {pl : Sem Bool} (k : Q (.builtin "str.join", [o]) s) (ho : er o = .str x) : Wp C.w A (getMethod o "join" pl) Q E s := by
  obtain ⟨u, rfl⟩ := er_str ho
  exact ⟨GM.join k⟩
theorem strvals : ∀ {vs : List Value} {xs : List (List Nat)}, vs.map er = xs.map AV.str → ∃ l : List (Str × Tok), strValues l = vs ∧ l.map (·.1.cps.toList) = xs
  | [], [], _ => ⟨[], rfl, rfl⟩
  | [], _ :: _, h => by simp at h
  | _ :: _, [], h => by simp at h
  | v :: vs, x :: xs, h => by
    simp only [List.map_cons, List.cons.injEq] at h
    obtain ⟨t, rfl⟩ := er_str h.1
    obtain ⟨l, e1, e2⟩ := strvals h.2
    exact ⟨(⟨x.toArray⟩, t) :: l, by rw [← e1]; rfl, by simp [e2]⟩
end
end Mine

end
section
open PySem PySem.W PyProof.Rows PySem.Calls
namespace Mine

section
variable {F : FnS} {C : Cx} {σ : St} {s : Shared} {A : Around} {E : Value → Shared → Prop} {Q : Value → Shared → Prop} {a b o : Value} {x y : List Nat}
theorem glued_nil (l : List Str) : (PySem.Builtin.Str.glued Str.empty l).cps.toList = (l.map (·.cps.toList)).flatten := by
  unfold PySem.Builtin.Str.glued
  have e0 : Str.empty.cps = #[] := rfl
  have key : ∀ (r : List Str) (acc : Array Nat), (r.foldl (fun acc p => acc ++ Str.empty.cps ++ p.cps) acc).toList = acc.toList ++ (r.map (·.cps.toList)).flatten := by
    intro r
    induction r with
    | nil => intro acc; simp
    | cons p r ih => intro acc; rw [List.foldl_cons, ih]; simp [e0]
  dsimp only
  cases l with
  | nil => rfl
  | cons p r =>
    show ((r.foldl (fun acc p => acc ++ Str.empty.cps ++ p.cps) p.cps)).toList = _
    rw [key]; simp
theorem foldl_len (l : List Str) : ∀ n, l.foldl (fun n (p : Str) => n + p.length + Str.empty.length) n = n + ((l.map (·.cps.toList)).flatten).length := by
  induction l with
  | nil => intro n; simp
  | cons p r ih =>
    intro n
    rw [List.foldl_cons, ih]
    have h0 : Str.empty.length = 0 := rfl
    have h1 : p.length = p.cps.toList.length := by simp [Str.length]
    rw [h0, h1, List.map_cons, List.flatten_cons, List.length_append]; omega
theorem am_join {l : Addr} {xs : List (List Nat)} (h : At F C σ s) (hl : σ.H l = some (.list (xs.map AV.str))) (ho : er o = .str []) (hz : xs.flatten.length ≤ 1000000) (k : ∀ v s', At F C σ s' → er v = .str xs.flatten → Q v s') :
    Wp C.w A (call (.builtin "str.join") [o, .ref l]) Q E s := by
  obtain ⟨t, rfl⟩ := er_str ho
  obtain ⟨vs, il, e⟩ := h.isList hl
  obtain ⟨ls, e1, e2⟩ := strvals e
  have e3 : (ls.map (·.1)).map (·.cps.toList) = xs := by rw [List.map_map]; exact e2
  refine ⟨SC.join (l := ls) (texts := ls.map (·.1)) (by rw [e1]; exact il) rfl ?_ fun t' kk => k _ _ (h.tok _) ?_⟩
  · unfold JoinOk
    have : ((ls.map (·.1)).toArray.foldl (fun n (p : Str) => n + p.length + (⟨([] : List Nat).toArray⟩ : Str).length) 0) = xs.flatten.length := by
      have := foldl_len (ls.map (·.1)) 0
      rw [e3, Nat.zero_add] at this
      rw [← this]; simp [Str.empty]
    rw [this]
    have : ¬ xs.flatten.length > sizeLine := by rw [sizeLine_eq]; omega
    show (!decide (xs.flatten.length > sizeLine)) = true
    rw [decide_eq_false this]; rfl
  · show AV.str (Txt.join Str.empty (ls.map (·.1))).cps.toList = _
    unfold Txt.join
    rw [glued_nil, e3]
end

section loops
variable {F : FnS} {C : Cx} {σ : St} {s : Shared} {A : Around} {E : Value → Shared → Prop} {w : World} {env : Env}
noncomputable def ForR (Q : Flow → Shared → Prop) : Result → Shared → Prop := fun r s' => match r with | .ok f => Q f s' | .error _ => False
theorem wp_for {target iter body orelse pos} {Q : Flow → Shared → Prop} (h : Wp w A (eval iter env) (fun x s₁ => Wp w A (pyIter x) (fun it s₂ => Cd w A (.forLoop target it body orelse env) (ForR Q) s₂) E s₁) E s)
    (hs : ∀ x, foldedSetIterable iter env x = pure x := by intro _; rfl) : Wp w A (exec (.For target iter body orelse pos) env) Q E s :=
  ⟨wpAny_For (h.up fun _ _ x => x.up fun _ _ x => codeAny_mono x.ok fun r s' y => by cases r <;> first | exact y | exact y.elim) hs⟩
/-- a turn's end -/
noncomputable def LoopEnd (F : FnS) (C : Cx) (I : Nat → St → Prop) (n : Nat) (R : Result → Shared → Prop) (f : Flow) (s : Shared) : Prop := match f with
  | .brk => R (.ok .next) s
  | .ret v => R (.ok (.ret v)) s
  | _ => ∃ m σ', m < n ∧ I m σ' ∧ At F C σ' s
theorem cd_for {R : Result → Shared → Prop} {target body} {it : Value} (I : Nat → St → Prop)
    (turn : ∀ n σ s, I n σ → At F C σ s → Wp C.w A (pyNext it) (fun r s₁ => match r with
      | none => R (.ok .next) s₁
      | some v => Wp C.w A (assign target C.env v) (fun _ s₂ => Wp C.w A (execs body C.env) (LoopEnd F C I n R) (fun _ _ => False) s₂) (fun _ _ => False) s₁) (fun _ _ => False) s)
    (n : Nat) (h0 : I n σ) (h : At F C σ s) (ht : ∀ v, letOwnedTupleGo target it v = pure () := by intro _; rfl) : Cd C.w A (.forLoop target it body [] C.env) R s := by
  refine ⟨codeAny_forLoop (fun n s => ∃ σ, I n σ ∧ At F C σ s) (fun n s hI => ?_) n ⟨σ, h0, h⟩ ht⟩
  obtain ⟨σ, hI, h⟩ := hI
  refine wpAny_mono (turn n σ s hI h).ok (fun r s₁ x => ?_) fun _ _ x => x.elim
  cases r with
  | none => exact wpAny_execs_nil x
  | some v =>
    refine wpAny_mono x.ok (fun _ s₂ y => wpAny_mono y.ok (fun f s₃ z => ?_) fun _ _ x => x.elim) fun _ _ x => x.elim
    cases f with
    | next => obtain ⟨m, σ', a, b, c⟩ := z; exact ⟨m, a, σ', b, c⟩
    | cont => obtain ⟨m, σ', a, b, c⟩ := z; exact ⟨m, a, σ', b, c⟩
    | brk => exact z
    | ret v => exact z
theorem wp_asgn {x pos v} {Q : Unit → Shared → Prop} (h : Wp w A (storeName env x v) Q E s) : Wp w A (assign (.Name x pos) env v) Q E s := ⟨wpAny_assign_Name h.ok⟩
end loops

noncomputable abbrev rngObj (a b c : Int) (t u v : Tok) : Obj := { cls := .type "range", dict := none, data := .fields #[.int a t, .int b u, .int c v], slots := #[] }
theorem fits_of {i : Int} (h1 : -1000000000 ≤ i) (h2 : i ≤ 1000000000) : Builtin.Range.rangeFitsLong i = true :=
  Bool.and_eq_true_iff.mpr ⟨decide_eq_true (Int.le_trans (by decide) h1), decide_eq_true (Int.lt_of_le_of_lt h2 (by decide))⟩
theorem gap_of {a b : Int} (h1 : -1000000 ≤ a) (h4 : b ≤ 1000000) (h : a < b) : -1000000000 ≤ b - a - 1 + 1 ∧ b - a - 1 + 1 ≤ 1000000000 := by
  rw [Int.sub_add_cancel]
  exact ⟨Int.le_trans (by decide) (Int.sub_nonneg_of_le (Int.le_of_lt h)), Int.le_trans (Int.sub_le_sub h4 h1) (by decide)⟩
theorem small_of {a b c : Int} (h1 : -1000000 ≤ a) (h2 : a ≤ 1000000) (h3 : -1000000 ≤ b) (h4 : b ≤ 1000000) (hc : c = 1 ∨ c = -1) : Builtin.Range.small a b c = true := by
  have ha := fits_of (Int.le_trans (by decide) h1) (Int.le_trans h2 (by decide))
  have hb := fits_of (Int.le_trans (by decide) h3) (Int.le_trans h4 (by decide))
  have key : ∀ r d : Int, r = 0 ∨ (-1000000000 ≤ r ∧ r ≤ 1000000000) → Builtin.Range.rangeFitsLong c = true → d = 0 →
      Builtin.Range.rangeSize a b c = r → (if c > 0 then b + (c - 1) else b + (c + 1)) = b + d → Builtin.Range.small a b c = true := by
    intro r d hr hc' hd e e2
    subst hd
    have hr' : Builtin.Range.rangeFitsLong r = true := by
      rcases hr with rfl | hr
      · decide
      · exact fits_of hr.1 hr.2
    unfold Builtin.Range.small
    rw [e, ha, hb, hc', hr']
    rw [Int.add_zero] at e2
    have e3 : (if c > 0 then Builtin.Range.rangeFitsLong (b + (c - 1)) else Builtin.Range.rangeFitsLong (b + (c + 1))) = true := by
      split <;> rename_i z
      · rw [if_pos z] at e2; rw [e2]; exact hb
      · rw [if_neg z] at e2; rw [e2]; exact hb
    rw [e3, Bool.or_true]; rfl
  rcases hc with rfl | rfl
  · refine key _ 0 ?_ (by decide) rfl rfl rfl
    unfold Builtin.Range.rangeSize
    rw [if_pos (by decide), Int.ediv_one]
    split
    · exact .inr (gap_of h1 h4 (by assumption))
    · exact .inl rfl
  · refine key _ 0 ?_ (by decide) rfl rfl rfl
    unfold Builtin.Range.rangeSize
    rw [if_neg (by decide), Int.neg_neg, Int.ediv_one]
    split
    · exact .inr (gap_of h3 h2 (by assumption))
    · exact .inl rfl
theorem rsize_up {a b : Int} (h : a ≤ b) : Builtin.Range.rangeSize a b 1 = b - a := by
  unfold Builtin.Range.rangeSize
  simp only [show (1 : Int) > 0 by decide, if_true, Int.ediv_one]; split <;> omega
theorem rsize_dn {a b : Int} (h : b ≤ a) : Builtin.Range.rangeSize a b (-1) = a - b := by
  unfold Builtin.Range.rangeSize
  simp only [show ¬ (-1 : Int) > 0 by decide, if_false, Int.neg_neg, Int.ediv_one]; split <;> omega

section iters
variable {F : FnS} {C : Cx} {σ : St} {s : Shared} {A : Around} {E : Value → Shared → Prop} {it l : Addr}
theorem am_range1 {Q : Value → Shared → Prop} {nv : Value} {n : Int} (h : At F C σ s) (hn : er nv = .int n) (k : ∀ D s' t u v, σ.H D = none → At F C (σ.put D (.raw (rngObj 0 n 1 t u v))) s' → Q (.ref D) s') :
    Wp C.w A (call (.type "range") [nv]) Q E s := by
  obtain ⟨t, rfl⟩ := er_int hn
  exact ⟨call_range_1 (k _ _ _ _ _ (h.fresh (Nat.le_refl _)) (h.new (s' := { s with heap := s.heap.push _, toks := _ }) rfl rfl (fun b o e => Heap.get?_push_of_some _ e) (Heap.get?_push_size _ rfl) rfl (Nat.le_refl _)))⟩
theorem am_range2 {Q : Value → Shared → Prop} {av bv : Value} {a b : Int} (h : At F C σ s) (ha : er av = .int a) (hb : er bv = .int b) (k : ∀ D s' t u v, σ.H D = none → At F C (σ.put D (.raw (rngObj a b 1 t u v))) s' → Q (.ref D) s') :
    Wp C.w A (call (.type "range") [av, bv]) Q E s := by
  obtain ⟨t, rfl⟩ := er_int ha
  obtain ⟨u, rfl⟩ := er_int hb
  exact ⟨call_range_2 (k _ _ _ _ _ (h.fresh (Nat.le_refl _)) (h.new (s' := { s with heap := s.heap.push _, toks := _ }) rfl rfl (fun b o e => Heap.get?_push_of_some _ e) (Heap.get?_push_size _ rfl) rfl (Nat.le_refl _)))⟩
theorem am_iter_range {Q : Value → Shared → Prop} {D : Addr} {a b c : Int} {t u v : Tok} (h : At F C σ s) (hD : σ.H D = some (.raw (rngObj a b c t u v))) (hs : Builtin.Range.small a b c = true)
    (k : ∀ I s', σ.H I = none → At F C (σ.put I (.it (.range a (Builtin.Range.rangeSize a b c) c))) s' → Q (.ref I) s') : Wp C.w A (pyIter (.ref D)) Q E s := by
  obtain ⟨o, ho, hi, _⟩ := h.get hD
  cases hi
  exact ⟨wpAny_pyIter_range (t := t) (u := u) (v := v) ho hs (k _ _ (h.fresh (Nat.le_refl _)) (h.new (s' := { s with heap := s.heap.push _ }) rfl rfl (fun b o e => Heap.get?_push_of_some _ e) (Heap.get?_push_size _ rfl) rfl (Nat.le_refl _)))⟩
theorem am_next_range {Q : Option Value → Shared → Prop} {x left step : Int} (h : At F C σ s) (hit : σ.H it = some (.it (.range x left step))) (hl : 0 < left)
    (k : ∀ v s', er v = .int x → At F C (σ.put it (.it (.range (x + step) (left - 1) step))) s' → Q (some v) s') : Wp C.w A (pyNext (.ref it)) Q E s := by
  obtain ⟨o, ho, hi, _⟩ := h.get hit
  cases hi
  exact ⟨wpAny_pyNext_range_item ho hl fun h' hi' hs => k _ _ rfl (h.upd hit rfl rfl (fun b o hb e => hs.extBut b o hb e) hi' rfl)⟩
theorem am_end_range {Q : Option Value → Shared → Prop} {x left step : Int} (h : At F C σ s) (hh : A.handled = none) (hit : σ.H it = some (.it (.range x left step))) (hl : left ≤ 0)
    (k : ∀ s', At F C ⟨σ.m, hdel σ.H it⟩ s' → Q none s') : Wp C.w A (pyNext (.ref it)) Q E s := by
  obtain ⟨o, ho, hi, _⟩ := h.get hit
  cases hi
  exact ⟨wpAny_pyNext_range_end hh ho hl fun h' hs => k _ (h.lose hit rfl rfl fun b o hb e => hs b o hb e)⟩
theorem am_iter_list {Q : Value → Shared → Prop} {xs : List AV} (h : At F C σ s) (hl : σ.H l = some (.list xs)) (k : ∀ I s', σ.H I = none → At F C (σ.put I (.it (.list l 0))) s' → Q (.ref I) s') : Wp C.w A (pyIter (.ref l)) Q E s := by
  obtain ⟨vs, il, _⟩ := h.isList hl
  exact ⟨wpAny_pyIter_list il (k _ _ (h.fresh (Nat.le_refl _)) (h.new (s' := { s with heap := s.heap.push _ }) rfl rfl (fun b o e => Heap.get?_push_of_some _ e) (Heap.get?_push_size _ rfl) ⟨rfl, rfl⟩ (Nat.le_refl _)))⟩
theorem am_next_list {Q : Option Value → Shared → Prop} {xs : List AV} {i : Nat} {av : AV} (h : At F C σ s) (hit : σ.H it = some (.it (.list l i))) (hl : σ.H l = some (.list xs)) (hx : xs[i]? = some av)
    (k : ∀ v s', er v = av → At F C (σ.put it (.it (.list l (i + 1)))) s' → Q (some v) s') : Wp C.w A (pyNext (.ref it)) Q E s := by
  obtain ⟨vs, il, e⟩ := h.isList hl
  obtain ⟨o, ho, ⟨h1, h2⟩, _⟩ := h.get hit
  subst e
  rw [List.getElem?_map] at hx
  obtain ⟨v, hv, ev⟩ := Option.map_eq_some_iff.mp hx
  refine ⟨wpAny_pyNext_list_item (x := v) ⟨o, ho, h1, h2⟩ il (by simpa using hv) fun h' hi' hs => ?_⟩
  obtain ⟨o', ho', h1', h2'⟩ := hi'
  exact k _ _ ev (h.upd hit rfl rfl (fun b o hb e => hs.extBut b o hb e) ho' ⟨h1', h2'⟩)
theorem am_end_list {Q : Option Value → Shared → Prop} {xs : List AV} {i : Nat} (h : At F C σ s) (hh : A.handled = none) (hit : σ.H it = some (.it (.list l i))) (hl : σ.H l = some (.list xs)) (hx : xs.length ≤ i)
    (k : ∀ s', At F C ⟨σ.m, hdel σ.H it⟩ s' → Q none s') : Wp C.w A (pyNext (.ref it)) Q E s := by
  obtain ⟨vs, il, e⟩ := h.isList hl
  obtain ⟨o, ho, ⟨h1, h2⟩, _⟩ := h.get hit
  subst e
  refine ⟨wpAny_pyNext_list_end hh ⟨o, ho, h1, h2⟩ il (by simpa using hx) fun h' hs => k _ (h.lose hit rfl rfl fun b o hb e => hs b o hb e)⟩
theorem am_iter_str {Q : Value → Shared → Prop} {o : Value} {x : List Nat} (h : At F C σ s) (ho : er o = .str x) (ha : x.all (· < 128) = true) (k : ∀ I s', σ.H I = none → At F C (σ.put I (.it (.str x 0))) s' → Q (.ref I) s') : Wp C.w A (pyIter o) Q E s := by
  obtain ⟨t, rfl⟩ := er_str ho
  exact ⟨wpAny_pyIter_ascii (by simpa using ha) (k _ _ (h.fresh (Nat.le_refl _)) (h.new (s' := { s with heap := s.heap.push _ }) rfl rfl (fun b o e => Heap.get?_push_of_some _ e) (Heap.get?_push_size _ rfl) ⟨t, rfl, rfl⟩ (Nat.le_refl _)))⟩
theorem am_next_str {Q : Option Value → Shared → Prop} {x : List Nat} {i c : Nat} (h : At F C σ s) (hit : σ.H it = some (.it (.str x i))) (hx : x[i]? = some c)
    (k : ∀ v s', er v = .str [c] → At F C (σ.put it (.it (.str x (i + 1)))) s' → Q (some v) s') : Wp C.w A (pyNext (.ref it)) Q E s := by
  obtain ⟨o, ho, ⟨t, h1, h2⟩, _⟩ := h.get hit
  refine ⟨wpAny_pyNext_ascii_item (c := c) ⟨o, ho, h1, h2⟩ (by simpa using hx) fun h' hi' hs => ?_⟩
  obtain ⟨o', ho', h1', h2'⟩ := hi'
  exact k _ _ rfl (h.upd hit rfl rfl (fun b o hb e => hs.extBut b o hb e) ho' ⟨t, h1', h2'⟩)
theorem am_end_str {Q : Option Value → Shared → Prop} {x : List Nat} {i : Nat} (h : At F C σ s) (hh : A.handled = none) (hit : σ.H it = some (.it (.str x i))) (hx : x.length ≤ i)
    (k : ∀ s', At F C ⟨σ.m, hdel σ.H it⟩ s' → Q none s') : Wp C.w A (pyNext (.ref it)) Q E s := by
  obtain ⟨o, ho, ⟨t, h1, h2⟩, _⟩ := h.get hit
  exact ⟨wpAny_pyNext_ascii_end hh ⟨o, ho, h1, h2⟩ (by simpa using hx) fun h' hs => k _ (h.lose hit rfl rfl fun b o hb e => hs b o hb e)⟩
end iters
theorem ersC {vs : List Value} {a : AV} {r : List AV} (h : vs.map er = a :: r) : ∃ v vs', vs = v :: vs' ∧ er v = a ∧ vs'.map er = r := by
  cases vs with
  | nil => cases h
  | cons v vs' => exact ⟨v, vs', rfl, (List.cons.inj h).1, (List.cons.inj h).2⟩
theorem ers0 {vs : List Value} (h : vs.map er = []) : vs = [] := List.map_eq_nil_iff.mp h
theorem ers2 {vs : List Value} {a b : AV} (h : vs.map er = [a, b]) : ∃ v1 v2, vs = [v1, v2] ∧ er v1 = a ∧ er v2 = b := by
  obtain ⟨v1, r, rfl, e1, h⟩ := ersC h
  obtain ⟨v2, r, rfl, e2, h⟩ := ersC h
  exact ⟨v1, v2, by rw [ers0 h], e1, e2⟩
theorem ers3 {vs : List Value} {a b c : AV} (h : vs.map er = [a, b, c]) : ∃ v1 v2 v3, vs = [v1, v2, v3] ∧ er v1 = a ∧ er v2 = b ∧ er v3 = c := by
  obtain ⟨v1, r, rfl, e1, h⟩ := ersC h
  obtain ⟨v2, v3, rfl, e2, e3⟩ := ers2 h
  exact ⟨v1, v2, v3, rfl, e1, e2, e3⟩
theorem ers5 {vs : List Value} {a b c d e : AV} (h : vs.map er = [a, b, c, d, e]) : ∃ v1 v2 v3 v4 v5, vs = [v1, v2, v3, v4, v5] ∧ er v1 = a ∧ er v2 = b ∧ er v3 = c ∧ er v4 = d ∧ er v5 = e := by
  obtain ⟨v1, r, rfl, e1, h⟩ := ersC h
  obtain ⟨v2, r, rfl, e2, h⟩ := ersC h
  obtain ⟨v3, v4, v5, rfl, e3, e4, e5⟩ := ers3 h
  exact ⟨v1, v2, v3, v4, v5, rfl, e1, e2, e3, e4, e5⟩
theorem len1 {vs : List Value} (h : vs.length = 1) : ∃ a, vs = [a] := ⟨vs[0], List.ext_getElem h fun i _ hi => by simp at hi; simp [hi]⟩
theorem len2 {vs : List Value} (h : vs.length = 2) : ∃ a b, vs = [a, b] := by
  cases vs with
  | nil => cases h
  | cons a r => obtain ⟨b, rfl⟩ := len1 (Nat.succ.inj h); exact ⟨a, b, rfl⟩
theorem len3 {vs : List Value} (h : vs.length = 3) : ∃ a b c, vs = [a, b, c] := by
  cases vs with
  | nil => cases h
  | cons a r => obtain ⟨b, c, rfl⟩ := len2 (Nat.succ.inj h); exact ⟨a, b, c, rfl⟩
theorem FnK.of1 {F : FnS} {x : Str} {body : List Stmt} {fd : FuncData} (hb : fd.body = .stmts body) (hg : fd.globals = mainGlobals) (hbl : fd.builtins = builtinsNs) (c : chk F [x] fd = true)
    (bind : ∀ a : Value, bindArgs fd ⟨[a], []⟩ = pure [(x, a)]) : FnK F [x] body fd := .of hb hg hbl c fun vs h => by obtain ⟨a, rfl⟩ := len1 h; exact bind a
theorem FnK.of2 {F : FnS} {x y : Str} {body : List Stmt} {fd : FuncData} (hb : fd.body = .stmts body) (hg : fd.globals = mainGlobals) (hbl : fd.builtins = builtinsNs) (c : chk F [x, y] fd = true)
    (bind : ∀ a b : Value, bindArgs fd ⟨[a, b], []⟩ = pure [(x, a), (y, b)]) : FnK F [x, y] body fd := .of hb hg hbl c fun vs h => by obtain ⟨a, b, rfl⟩ := len2 h; exact bind a b
theorem FnK.of3 {F : FnS} {x y z : Str} {body : List Stmt} {fd : FuncData} (hb : fd.body = .stmts body) (hg : fd.globals = mainGlobals) (hbl : fd.builtins = builtinsNs) (c : chk F [x, y, z] fd = true)
    (bind : ∀ a b c : Value, bindArgs fd ⟨[a, b, c], []⟩ = pure [(x, a), (y, b), (z, c)]) : FnK F [x, y, z] body fd := .of hb hg hbl c fun vs h => by obtain ⟨a, b, e, rfl⟩ := len3 h; exact bind a b e
end Mine

end
section
open PySem PySem.W PyProof.Rows PySem.Calls
namespace Mine

section
variable {F : FnS} {C : Cx} {σ : St} {s : Shared} {A : Around} {E : Value → Shared → Prop} {Q : Value → Shared → Prop} {a b o : Value} {l l₁ l₂ : Addr} {xs ys : List AV}

theorem led_mk (h : At F C σ s) {s' : Shared} {m₀ : Str → Option Value} {news : List (Addr × Obj)} (hl : Led F C s'.heap σ m₀ news) (hg : s'.gens = s.gens) (ho : s'.os = s.os) : At F C σ s' := ⟨hg.trans h.gens, ho.trans h.os, h.gnd, h.env, _, _, hl⟩
/-- a new one heads the ledger -/
theorem At.head (h : At F C σ s) {s' : Shared} {m₀ : Str → Option Value} {news : List (Addr × Obj)} {D : Addr} {o : Obj} {ao : AO} (hl : Led F C s.heap σ m₀ news) (f' : Fr C.g C.L s'.heap m₀) (N' : News C.g C.L s'.heap ((D, o) :: news)) (hlt : ∀ p ∈ news, p.1 < D) (hi : ao.Is o)
    (hg : s'.gens = s.gens) (ho : s'.os = s.os) : At F C (σ.put D ao) s' := by
  obtain ⟨f, N, ND, e, q, x⟩ := hl
  refine ⟨hg.trans h.gens, ho.trans h.os, h.gnd, h.env, m₀, _, f', N', ?_, e, fun a ao' ha => ?_, fun p hp => ?_, fun a ao' ha p hp => ?_⟩
  · rw [List.map_cons, List.nodup_cons]
    refine ⟨fun hm => ?_, ND⟩
    obtain ⟨p, hp, e'⟩ := List.mem_map.mp hm
    exact absurd e' (Nat.ne_of_lt (hlt p hp))
  · unfold St.put hput at ha
    dsimp only at ha
    split at ha
    · rename_i e'; cases ha; subst e'; exact ⟨o, .head _, hi⟩
    · obtain ⟨o', hm, hi'⟩ := q a ao' ha; exact ⟨o', .tail _ hm, hi'⟩
  · obtain ⟨o', hm, hi'⟩ := x.1 p hp; exact ⟨o', .tail _ hm, hi'⟩
  · unfold St.put hput at ha
    dsimp only at ha
    split at ha
    · rename_i z; subst z
      obtain ⟨o', hm, _⟩ := x.1 p hp
      exact Nat.ne_of_lt (hlt _ hm)
    · exact x.2 a ao' ha p hp
theorem led_no {m₀ : Str → Option Value} {news : List (Addr × Obj)} {D : Addr} {h' : Heap} (hl : Led F C h' σ m₀ news) (hlt : ∀ p ∈ news, p.1 < D) : σ.H D = none := by
  cases z : σ.H D with
  | none => rfl
  | some ao => obtain ⟨o, hm, _⟩ := hl.2.2.2.2.1 D ao z; exact absurd (hlt _ hm) (Nat.lt_irrefl _)

theorem am_range3 {av bv cv : Value} {a b c : Int} (h : At F C σ s) (ha : er av = .int a) (hb : er bv = .int b) (hcv : er cv = .int c) (hc : c = -1) (k : ∀ D s' t u v, σ.H D = none → At F C (σ.put D (.raw (rngObj a b c t u v))) s' → Q (.ref D) s') :
    Wp C.w A (call (.type "range") [av, bv, cv]) Q E s := by
  obtain ⟨t, rfl⟩ := er_int ha
  obtain ⟨u, rfl⟩ := er_int hb
  obtain ⟨v, rfl⟩ := er_int hcv
  exact ⟨call_range_3 (by omega) (k _ _ _ _ _ (h.fresh (Nat.le_refl _)) (h.new (s' := { s with heap := s.heap.push _, toks := _ }) rfl rfl (fun b o e => Heap.get?_push_of_some _ e) (Heap.get?_push_size _ rfl) rfl (Nat.le_refl _))) (Or.inl (PyProof.noPylong_small (by omega)))⟩
theorem rep_cps (y : Array Nat) : ∀ (n : Nat) (acc : Array Nat), ((List.replicate n y).foldl (· ++ ·) acc).toList = acc.toList ++ (List.replicate n y.toList).flatten
  | 0, acc => by simp
  | n + 1, acc => by rw [List.replicate_succ, List.foldl_cons, rep_cps y n]; simp [List.replicate_succ]
theorem am_smul {x : List Nat} {n : Int} (h : At F C σ s) (ha : er a = .str x) (hb : er b = .int n) (h0 : 0 ≤ n) (hn : n ≤ 1000) (hx : x.length ≤ 1000) (k : ∀ v s', At F C σ s' → er v = .str (List.replicate n.toNat x).flatten → Q v s') : Wp C.w A (binaryOp .Mult a b) Q E s := by
  obtain ⟨t, rfl⟩ := er_str ha
  obtain ⟨u, rfl⟩ := er_int hb
  have hl : (⟨x.toArray⟩ : Str).length = x.length := by simp [Str.length]
  have hm : x.length * n.toNat ≤ 1000000 := by
    have : x.length * n.toNat ≤ 1000 * 1000 := Nat.mul_le_mul hx (by omega)
    omega
  have hl' : ∀ z : List Nat, (⟨z.toArray⟩ : Str).length = z.length := by intro z; simp [Str.length]
  refine ⟨PySem.P.mul_str ?_ (fun h1 _ => ?_) (fun _ _ => ?_) ?_⟩
  · have h1 : ¬ n < -(2 ^ 63 : Int) := by omega
    have h2 : ¬ n ≥ 2 ^ 63 := by omega
    rw [decide_eq_false h1, decide_eq_false h2]; rfl
  · rw [hl]
    have : (1000 : Int) ≤ (2 ^ 63 - 1) / n := Int.le_ediv_of_mul_le (by omega) (by omega)
    omega
  · rw [hl]
    have : ¬ x.length * n.toNat > sizeLine := by rw [sizeLine_eq]; omega
    show decide (x.length * n.toNat > sizeLine) = false
    exact decide_eq_false this
  · split
    · rename_i hz
      have : n.toNat = 0 := by omega
      exact ⟨by decide, k _ _ (h.tok _) (by rw [this]; rfl)⟩
    · split
      · rename_i h1 hz
        refine k _ _ h ?_
        rw [hl] at hz
        simp only [Bool.or_eq_true, beq_iff_eq] at hz
        rcases hz with rfl | hz
        · simp [er]
        · have : x = [] := List.length_eq_zero_iff.mp hz
          subst this
          simp [er]
      · have e := rep_cps x.toArray n.toNat #[]
        simp only [List.nil_append] at e
        refine ⟨?_, k _ _ (h.tok _) (by show AV.str _ = _; rw [e])⟩
        have e2 := congrArg List.length e
        show Array.size _ ≤ _
        rw [Array.length_toList] at e2
        rw [e2, sizeLine_eq]
        simp
        rw [Nat.mul_comm]; omega

theorem pick_list {vs : List Value} (l u : Option Int) : (slicePick vs.toArray l u none).toList = (vs.drop (loOf l vs.length)).take (hiOf u vs.length - loOf l vs.length) := by
  have e : sliceBounds l u none vs.toArray.size = (((loOf l vs.length : Nat) : Int), ((hiOf u vs.length : Nat) : Int), 1) := pick_key l u vs.length
  rw [kmk_pick_nat _ e]
theorem part_of {v : Value} {o : Option Int} (h : er v = (match o with | none => .none | some i => .int i)) : IsPart v o := by
  cases o with
  | none => cases er_none h; exact .none
  | some i => obtain ⟨t, rfl⟩ := er_int h; exact .int i t
theorem am_lslice0 {value : Expr} {le ue : Option Expr} {p : Pos} {lv uv : Value} {li ui : Option Int} {vs : List Value} (h : At F C σ s) (hl : s.heap.IsList l vs.toArray) (hlo : er lv = (match li with | none => .none | some i => .int i)) (hu : er uv = (match ui with | none => .none | some i => .int i)) (hz : vs.length ≤ 1000000)
    (k : ∀ D s', σ.H D = none → At F C (σ.put D (.list (((vs.map er).drop (loOf li vs.length)).take (hiOf ui vs.length - loOf li vs.length)))) s' → Q (.ref D) s') :
    Wp C.w A (subscriptTail value (.Slice le ue none p) (.ref l) (.ref s.heap.objs.size)) Q E { s with heap := s.heap.push { cls := .type "slice", data := .fields #[lv, uv, .none] } } := by
  obtain ⟨m₀, news, f, N, ND, e, q⟩ := id h.led
  refine ⟨kba_turn (value' := .Name "x" ⟨0, 0, 0, 0⟩) (fun _ => rfl) (kmk_slice_lit f N hl (part_of hlo) (part_of hu) (pick_list li ui) (fun D h' f' N' l1 => ?_) (by with_unfolding_all rfl) (fun _ => rfl) (by rw [List.size_toArray, sizeLine_eq]; omega))⟩
  refine k D _ (led_no ⟨f, N, ND, e, q⟩ l1) (h.head (s' := { s with heap := h' }) ⟨f, N, ND, e, q⟩ f' N' l1 ⟨_, 0, rfl, ?_⟩ rfl rfl)
  rw [List.map_take, List.map_drop]
theorem am_lslice {value : Expr} {le ue : Option Expr} {p : Pos} {lv uv : Value} {li ui : Option Int} (h : At F C σ s) (hl : σ.H l = some (.list xs)) (hlo : er lv = (match li with | none => .none | some i => .int i)) (hu : er uv = (match ui with | none => .none | some i => .int i)) (hz : xs.length ≤ 1000000)
    (k : ∀ D s', σ.H D = none → At F C (σ.put D (.list ((xs.drop (loOf li xs.length)).take (hiOf ui xs.length - loOf li xs.length)))) s' → Q (.ref D) s') :
    Wp C.w A (subscriptTail value (.Slice le ue none p) (.ref l) (.ref s.heap.objs.size)) Q E { s with heap := s.heap.push { cls := .type "slice", data := .fields #[lv, uv, .none] } } := by
  obtain ⟨vs, il, e⟩ := h.isList hl
  have hn : vs.length = xs.length := by have := congrArg List.length e; simpa using this
  subst e
  refine am_lslice0 h il hlo hu (by omega) ?_
  rw [hn]; exact k
theorem am_ladd (h : At F C σ s) (h1 : σ.H l₁ = some (.list xs)) (h2 : σ.H l₂ = some (.list ys)) (hz : xs.length + ys.length ≤ 1000000) (k : ∀ D s', σ.H D = none → At F C (σ.put D (.list (xs ++ ys))) s' → Q (.ref D) s') :
    Wp C.w A (binaryOp .Add (.ref l₁) (.ref l₂)) Q E s := by
  obtain ⟨vs, il, e⟩ := h.isList h1
  obtain ⟨ws, il2, e2⟩ := h.isList h2
  obtain ⟨m₀, news, f, N, ND, e', q⟩ := id h.led
  have lt : ∀ p ∈ news, p.1 < s.heap.objs.size := fun p hp => Heap.lt_size (N p hp).1
  refine ⟨add_lists f N il il2 (fun h' f' N' => k _ _ (h.fresh (Nat.le_refl _)) (h.head (s' := { s with heap := h' }) ⟨f, N, ND, e', q⟩ f' N' lt ⟨_, 0, rfl, by simp [e, e2]⟩ rfl rfl)) ?_⟩
  have hn : vs.length = xs.length := by have := congrArg List.length e; simpa using this
  have hn2 : ws.length = ys.length := by have := congrArg List.length e2; simpa using this
  rw [sizeLine_eq]; omega
theorem am_lneg1 {value slice : Expr} {iv : Value} {av : AV} (h : At F C σ s) (hl : σ.H l = some (.list xs)) (hi : er iv = .int (-1)) (hx : xs.getLast? = some av) (k : ∀ v, er v = av → Q v s)
    (hs : subscripted slice false (.ref l) iv = operate [.ref l, iv] (getItem (.ref l) iv) := by with_unfolding_all rfl) : Wp C.w A (subscriptTail value slice (.ref l) iv) Q E s := by
  obtain ⟨vs, il, e⟩ := h.isList hl
  obtain ⟨t, rfl⟩ := er_int hi
  subst e
  rw [List.getLast?_eq_getElem?, List.getElem?_map] at hx
  obtain ⟨v, h1, h2⟩ := Option.map_eq_some_iff.mp hx
  have hlt : vs.length - 1 < vs.length := by
    have := (List.getElem?_eq_some_iff.mp h1).1
    simpa using this
  refine ⟨tail_any il.typeIs slot_list_getitem.lookup (wpAny_getItem_list_neg (x := v) il (by decide) (by rw [List.size_toArray]; omega) (by decide) ?_ (k v h2)) hs⟩
  rw [List.size_toArray]
  rw [neg1_nat]
  simpa using h1
theorem am_mpop {Q : Value × List Value → Shared → Prop} {pl : Sem Bool} (h : At F C σ s) (hl : σ.H l = some (.list xs)) (k : Q (.builtin "list.pop", [.ref l]) s) : Wp C.w A (getMethod (.ref l) "pop" pl) Q E s := by
  obtain ⟨o, ho, ⟨vs, n, rfl, e⟩, _⟩ := h.get hl
  exact ⟨getMethod_builtin ⟨_, ho, rfl⟩ PySem.F.plainAttrs_list PySem.F.slot_list_pop PySem.F.type_list_pop (fun a e => by cases e; exact ⟨_, ho, rfl⟩) k⟩
theorem am_pop0 {iv : Value} {x : AV} (h : At F C σ s) (hl : σ.H l = some (.list (x :: xs))) (hi : er iv = .int 0) (hz : xs.length ≤ 100000) (k : ∀ v s', er v = x → At F C (σ.put l (.list xs)) s' → Q v s') : Wp C.w A (call (.builtin "list.pop") [.ref l, iv]) Q E s := by
  obtain ⟨o, ho, ⟨vs, n, rfl, e⟩, _⟩ := h.get hl
  obtain ⟨t, rfl⟩ := er_int hi
  cases vs with
  | nil => simp at e
  | cons v vs =>
    simp only [List.map_cons, List.cons.injEq] at e
    have hn : vs.length = xs.length := by have := congrArg List.length e.2; simpa using this
    have q := PySem.IsL.update (h := s.heap) (l := l) (items := (v :: vs).toArray) (n := n) ho (fun xs => xs.eraseIdxIfInBounds 0)
    have e0 : (v :: vs).toArray.eraseIdxIfInBounds 0 = vs.toArray := kl_erase [] vs v
    rw [e0, if_neg (by simp)] at q
    refine ⟨call_meets PySem.F.slot_list_pop ⟨_, ho, rfl⟩ PySem.F.entry_list_pop (PySem.F.args_list_pop_2 _ _) (PySem.MeetsSeq.list_pop_at l (v :: vs).toArray n 0 t 0 v rfl ?_ ?_ ?_) ⟨ho, k v _ e.1 (h.upd (s' := { s with heap := s.heap.update l _ }) hl rfl rfl (fun b o hb e => (Heap.get?_update_other _ _ (Ne.symm hb)).trans e) q ⟨vs, n + 1, rfl, e.2⟩)⟩⟩
    · unfold seqIndex?; simp
    · rfl
    · rw [List.size_toArray, sizeLine_eq]; simp; omega
theorem strsAre_of : ∀ {vs : List Value} {xs : List (List Nat)}, vs.map er = xs.map AV.str → StrsAre vs (xs.map (fun x => (⟨x.toArray⟩ : Str)))
  | [], [], _ => .nil
  | [], _ :: _, h => by simp at h
  | _ :: _, [], h => by simp at h
  | v :: vs, x :: xs, h => by
    simp only [List.map_cons, List.cons.injEq] at h
    obtain ⟨t, rfl⟩ := er_str h.1
    exact .cons _ t (strsAre_of h.2)
theorem intsAre_of : ∀ {vs : List Value} {xs : List Int}, vs.map er = xs.map AV.int → IntsAre vs xs
  | [], [], _ => .nil
  | [], _ :: _, h => by simp at h
  | _ :: _, [], h => by simp at h
  | v :: vs, x :: xs, h => by
    simp only [List.map_cons, List.cons.injEq] at h
    obtain ⟨t, rfl⟩ := er_int h.1
    exact .cons _ t (intsAre_of h.2)
theorem am_instrs {x : List Nat} {zs : List (List Nat)} (h : At F C σ s) (ha : er a = .str x) (hl : σ.H l = some (.list (zs.map AV.str))) (k : Q (.bool (zs.contains x)) s) : Wp C.w A (compareOp .In a (.ref l)) Q E s := by
  obtain ⟨t, rfl⟩ := er_str ha
  obtain ⟨vs, il, e⟩ := h.isList hl
  refine ⟨in_list_strs il (strsAre_of e) ?_⟩
  have : (zs.map (fun x => (⟨x.toArray⟩ : Str))).any (· == ⟨x.toArray⟩) = zs.contains x := by
    rw [List.any_map, Bool.eq_iff_iff, List.any_eq_true, List.contains_iff_mem]
    constructor
    · rintro ⟨y, hy, hq⟩
      have := eq_of_beq hq
      have := congrArg (fun z : Str => z.cps.toList) this
      simp at this
      exact this ▸ hy
    · intro hm; exact ⟨x, hm, by simp⟩
  rw [this]; exact k
theorem am_min2 {x y : Int} (h : At F C σ s) (hh : A.handled = none) (ha : er a = .int x) (hb : er b = .int y) (k : ∀ v s', At F C σ s' → er v = .int (min x y) → Q v s') : Wp C.w A (call (.builtin "min") [a, b]) Q E s := by
  obtain ⟨t, rfl⟩ := er_int ha
  obtain ⟨u, rfl⟩ := er_int hb
  obtain ⟨m₀, news, f, N, ND, e, q⟩ := id h.led
  refine ⟨min_two_N hh f N fun h' tk f' N' => k _ _ (led_mk h (s' := { s with heap := h', toks := tk }) ⟨f', N', ND, e, q⟩ rfl rfl) ?_⟩
  show AV.int _ = _
  congr 1
  split <;> omega
theorem am_sum {ns : List Int} (h : At F C σ s) (hh : A.handled = none) (hl : σ.H l = some (.list (ns.map AV.int))) (k : ∀ v s', At F C σ s' → er v = .int ns.sum → Q v s') : Wp C.w A (call (.builtin "sum") [.ref l]) Q E s := by
  obtain ⟨vs, il, e⟩ := h.isList hl
  obtain ⟨m₀, news, f, N, ND, e', q⟩ := id h.led
  exact ⟨LSm.sum_ints f N hh il (intsAre_of e) fun h' tk t' f' N' => k _ _ (led_mk h (s' := { s with heap := h', toks := tk }) ⟨f', N', ND, e', q⟩ rfl rfl) rfl⟩
theorem am_isint {i : Int} (ha : er a = .int i) (k : Q (.bool true) s) : Wp C.w A (call (.builtin "isinstance") [a, .type "int"]) Q E s := by
  obtain ⟨t, rfl⟩ := er_int ha
  exact ⟨IsiPair.int_int k⟩
theorem am_isbool {i : Int} (h : At F C σ s) (ha : er a = .int i) (k : ∀ s', At F C σ s' → Q (.bool false) s') : Wp C.w A (call (.builtin "isinstance") [a, .type "bool"]) Q E s := by
  obtain ⟨t, rfl⟩ := er_int ha
  exact ⟨IsiPair.int_bool (k _ (h.tok _))⟩
end

mutual
inductive ADat (H : Addr → Option AO) : AV → W.Dat → Prop
  | none : ADat H .none .none
  | int (i : Int) : ADat H (.int i) (.int i)
  | str (x : List Nat) : ADat H (.str x) (.str ⟨x.toArray⟩)
  | list {a : Addr} {xs : List AV} {ds : List W.Dat} : H a = some (.list xs) → ADats H xs ds → ADat H (.ref a) (.list ds)
  | tuple {a : Addr} {xs : List AV} {ds : List W.Dat} : H a = some (.tuple xs) → ADats H xs ds → ADat H (.ref a) (.tuple ds)
inductive ADats (H : Addr → Option AO) : List AV → List W.Dat → Prop
  | nil : ADats H [] []
  | cons {x : AV} {xs : List AV} {d : W.Dat} {ds : List W.Dat} : ADat H x d → ADats H xs ds → ADats H (x :: xs) (d :: ds)
end
mutual
theorem adat_in {H : Addr → Option AO} {news : List (Addr × Obj)} (q : ∀ a ao, H a = some ao → ∃ o, (a, o) ∈ news ∧ ao.Is o) : ∀ {v : Value} {av : AV} {d : W.Dat}, ADat H av d → er v = av → DatIn news v d
  | _, _, _, .none, e => by cases er_none e; exact .none
  | _, _, _, .int i, e => by obtain ⟨t, rfl⟩ := er_int e; exact .int i t
  | _, _, _, .str x, e => by obtain ⟨t, rfl⟩ := er_str e; exact .str _ t
  | _, _, _, .list ha r, e => by
    cases er_ref e
    obtain ⟨o, hm, vs, n, rfl, e2⟩ := q _ _ ha
    exact .list hm (adats_in q r e2)
  | _, _, _, .tuple ha r, e => by
    cases er_ref e
    obtain ⟨o, hm, vs, n, rfl, e2⟩ := q _ _ ha
    exact .tuple hm (adats_in q r e2)
theorem adats_in {H : Addr → Option AO} {news : List (Addr × Obj)} (q : ∀ a ao, H a = some ao → ∃ o, (a, o) ∈ news ∧ ao.Is o) : ∀ {vs : List Value} {xs : List AV} {ds : List W.Dat}, ADats H xs ds → vs.map er = xs → DatAll news vs ds
  | [], _, _, .nil, _ => .nil
  | _ :: _, _, _, .nil, e => by simp at e
  | [], _, _, .cons _ _, e => by simp at e
  | v :: vs, _, _, .cons h r, e => by
    simp only [List.map_cons, List.cons.injEq] at e
    exact .cons (adat_in q h e.1) (adats_in q r e.2)
end
theorem adats_ints {H : Addr → Option AO} : ∀ (ns : List Int), ADats H (ns.map AV.int) (ns.map W.Dat.int)
  | [] => .nil
  | i :: r => .cons (.int i) (adats_ints r)
theorem adats_strs {H : Addr → Option AO} : ∀ (ns : List (List Nat)), ADats H (ns.map AV.str) (ns.map (fun x => W.Dat.str ⟨x.toArray⟩))
  | [] => .nil
  | i :: r => .cons (.str i) (adats_strs r)
open Classical in
theorem am_leq {F : FnS} {C : Cx} {σ : St} {s : Shared} {A : Around} {E : Value → Shared → Prop} {Q : Value → Shared → Prop} {l₁ l₂ : Addr} {xs ys : List AV} {ds es : List W.Dat} {n : Nat} (h : At F C σ s) (h1 : σ.H l₁ = some (.list xs)) (h2 : σ.H l₂ = some (.list ys)) (d1 : ADats σ.H xs ds) (d2 : ADats σ.H ys es)
    (o1 : ∀ d ∈ ds, kqdOk 8 d = true) (o2 : ∀ d ∈ es, kqdOk 8 d = true) (hr : Rm A (n + 9)) (k : Q (.bool (decide (ds = es))) s) : Wp C.w A (compareOp .Eq (.ref l₁) (.ref l₂)) Q E s := by
  obtain ⟨m₀, news, f, N, ND, e', q⟩ := id h.led
  obtain ⟨oa, ma, vs, n, rfl, e2⟩ := q.1 _ _ h1
  obtain ⟨ob, mb, ws, n, rfl, e3⟩ := q.1 _ _ h2
  exact ⟨kqd_eq N ma rfl rfl (adats_in q.1 d1 e2) (fun _ x => x) mb rfl rfl (adats_in q.1 d2 e3) (fun _ x => x) o1 o2 (by have := hr.units; show A.units + 64 < 9900; omega) k⟩
open Classical in
theorem am_lne {F : FnS} {C : Cx} {σ : St} {s : Shared} {A : Around} {E : Value → Shared → Prop} {Q : Value → Shared → Prop} {l₁ l₂ : Addr} {xs ys : List AV} {ds es : List W.Dat} {n : Nat} (h : At F C σ s) (h1 : σ.H l₁ = some (.list xs)) (h2 : σ.H l₂ = some (.list ys)) (d1 : ADats σ.H xs ds) (d2 : ADats σ.H ys es)
    (o1 : ∀ d ∈ ds, kqdOk 8 d = true) (o2 : ∀ d ∈ es, kqdOk 8 d = true) (hr : Rm A (n + 9)) (k : Q (.bool (!decide (ds = es))) s) : Wp C.w A (compareOp .NotEq (.ref l₁) (.ref l₂)) Q E s := by
  obtain ⟨m₀, news, f, N, ND, e', q⟩ := id h.led
  obtain ⟨oa, ma, vs, n, rfl, e2⟩ := q.1 _ _ h1
  obtain ⟨ob, mb, ws, n, rfl, e3⟩ := q.1 _ _ h2
  exact ⟨kqd_ne N ma rfl rfl (adats_in q.1 d1 e2) (fun _ x => x) mb rfl rfl (adats_in q.1 d2 e3) (fun _ x => x) o1 o2 (by have := hr.units; show A.units + 64 < 9900; omega) k⟩
end Mine

end
section
open PySem PySem.W PyProof.Rows PySem.Calls PySem.Builtin PySem.Builtin.ObjectAttr
namespace Mine

theorem slot_fn_ga : Slot "function" "__getattribute__" "object.__getattribute__" := .of (owner := "object") (n := "__getattribute__") (by rw [typeLookup_type, builtinLookup_eq_fast]; kernel_rfl) (by decide +kernel) (by decide +kernel) (by decide +kernel)
  (by first | exact .inl (by decide +kernel) | exact .inr (by decide +kernel)) (by rw [isSubtype_type]; kernel_rfl)
theorem slot_fn_sa : Slot "function" "__setattr__" "object.__setattr__" := .of (owner := "object") (n := "__setattr__") (by rw [typeLookup_type, builtinLookup_eq_fast]; kernel_rfl) (by decide +kernel) (by decide +kernel) (by decide +kernel)
  (by first | exact .inl (by decide +kernel) | exact .inr (by decide +kernel)) (by rw [isSubtype_type]; kernel_rfl)
theorem entry_ga : entryFor table "object.__getattribute__" = some Builtin.«object.__getattribute__» := entryFor_of_tree (by kernel_rfl)
theorem args_ga (o a : Value) : argsOk "object.__getattribute__" ⟨[o, a], []⟩ := by unfold argsOk; kernel_rfl
theorem canon_ga : (Manifest.canonical "object.__getattribute__" != "object.__getattribute__") = false := by decide +kernel
theorem fn_noga : typeLookup (.type "function") "__getattr__" = pure none := by rw [typeLookup_type, builtinLookup_eq_fast]; kernel_rfl

section
variable {F : FnS} {C : Cx} {σ : St} {s : Shared} {A : Around} {E : Value → Shared → Prop} {f d : Addr} {fd : FuncData} {ns : List Str} {vs : List AV} {name : Str} {av : AV}

theorem ga_eq (self : Value) (name : Str) (tk : Tok) : Builtin.«object.__getattribute__» ⟨[self, .str name tk], []⟩ = (typeOf self >>= fun tp => find self tp name >>= fun r => match r with
    | .value v => ret v
    | .bind g a => bindTo g a self tp
    | .missing => do
      if tp == .type "module" then
        if ← isOpaqueModuleObj self then
          let byTheModulesOwnEntry := match (← stack).drop 1 with
            | (.builtin "module.__getattribute__" ⟨m :: _, _⟩, _) :: _ => m == self
            | _ => false
          if !byTheModulesOwnEntry then unsupported "thirdparty:object.__getattribute__:a-miss-on-an-opaque-module"
      if tp == .type "type" then
        if let some key ← opaqueClassAbove self then unsupported s!"thirdparty:{key.toString}.{name.toString}:object.__getattribute__-misses-on-an-opaque-class"
      noSuchAttribute self name) := by kernel_rfl
theorem am_fnmethod (i : Nat) {Q : Value × List Value → Shared → Prop} {pl : Sem Bool} (h : At F C σ s) (hf : σ.H f = some (.fn fd (some d))) (hd : σ.H d = some (.attrs ns vs)) (hn : ns[i]? = some name) (hv : vs[i]? = some av) (ok : av.okk = true)
    (hno : typeLookup (.type "function") name = pure none) (k : ∀ v s', At F C σ s' → er v = av → Q (v, []) s') : Wp C.w A (getMethod (.ref f) name pl) Q E s := by
  refine ⟨?_⟩
  obtain ⟨o, ho, ⟨c1, c2, c3⟩, _⟩ := h.get hf
  obtain ⟨o', ho', ⟨es, n, rfl, e1, e2, e3⟩, _⟩ := h.get hd
  obtain ⟨v, g1, g2⟩ := attrs_get e1 e2 e3 hn hv
  have hk := k v _ (h.tok (s.toks + 1)) g2
  have hh := handed_er g2 ok
  obtain ⟨hp, gg, dr, tk, os⟩ := s
  dsimp only at ho ho' hk
  have hT : ∀ t', (⟨hp, gg, dr, t', os⟩ : Shared).TypeIs (.ref f) "function" := fun _ => ⟨_, ho, c1⟩
  unfold getMethod
  refine wpAny_bind (wpAny_specialOf (hT _) slot_fn_ga.lookup ?_)
  show wpAny _ _ (if (Manifest.canonical "object.__getattribute__" != "object.__getattribute__") = true then _ else _) _ _ _
  rw [if_neg (by rw [canon_ga]; decide)]
  refine wpAny_bind (wpAny_specialOf (hT _) fn_noga ?_)
  refine wpAny_bind (wpAny_specialOf (hT _) hno ?_)
  unfold getAttr getAttrBy
  refine wpAny_bind (wpAny_bind (wpAny_mkText (wpAny_holding (wpAny_bind (wpAny_typeOf (hT _) (wpAny_bind (wpAny_of_eq slot_fn_ga.lookup ?_)))))))
  show wpAny _ _ (getAttrByItsOwn (.ref f) (.str name tk) (.type "function") (.builtin "object.__getattribute__") true false) _ _ _
  unfold getAttrByItsOwn hookBefore callGetattribute boundAndCalled
  refine wpAny_bind (wpAny_of_eq (show (if onTheHeap (.type "function") then typeLookup (.type "function") "__getattr__" else pure none) = pure none from rfl) ?_)
  refine wpAny_bind (wpAny_attempt (wpAny_holding ?_))
  show wpAny _ _ (bindSpecial (.builtin "object.__getattribute__") (.ref f) >>= _) _ _ _
  refine wpAny_bind (wpAny_of_eq (slot_fn_ga.bind _) ?_)
  refine wpAny_mono (Q := fun v' s' => v' = v ∧ s' = ⟨hp, gg, dr, tk + 1, os⟩) (E := fun _ _ => False)
    (wpAny_call_entry slot_fn_ga (hT _) entry_ga ?_ (args_ga _ _)) (fun v' s' hv' => ?_) fun _ _ z => z.elim
  · show wpAny _ _ (Builtin.«object.__getattribute__» ⟨[.ref f, .str name tk], []⟩) _ _ (⟨hp, gg, dr, tk + 1, os⟩ : Shared)
    rw [ga_eq]
    refine wpAny_bind (wpAny_typeOf (hT _) (wpAny_bind ?_))
    unfold find
    refine wpAny_bind (wpAny_of_eq hno (wpAny_bind (wpAny_pure ?_)))
    refine wpAny_bind (wpAny_pure ?_)
    unfold ownThenClass inOwnDict ObjectAttr.ownDict
    refine wpAny_bind (wpAny_bind (wpAny_bind (wpAny_loadPart ho ?_)))
    rw [c3]
    unfold instanceDict
    refine wpAny_bind (wpAny_loadPart ho ?_)
    rw [c1]
    dsimp only
    rw [c2]
    refine wpAny_pure (a := some d) ?_
    refine wpAny_bind (wpAny_loadPart ho' ?_)
    rw [nsLook_of (r := some v) (by rw [lookIn_dict]; exact g1)]
    refine wpAny_pure ?_
    refine wpAny_bind (wpAny_rule (wpAny_pure ?_))
    exact wpAny_pure ⟨_, rfl, rfl, rfl⟩
  · obtain ⟨rfl, rfl⟩ := hv'
    show wpAny _ _ (handedOut _) _ _ _
    rw [handedOut_of hh]
    exact wpAny_pure (wpAny_pure hk)

theorem am_storeIn {P : Fin → Shared → Prop} {tk : Tok} {v : Value} (h : At F C σ s) (hd : σ.H d = some (.attrs ns vs)) (hn : name ∉ ns) (hl : ns.length < 1000)
    (k : ∀ s', At F C (σ.put d (.attrs (ns ++ [name]) (vs ++ [er v]))) s' → P (.done (.ret .none)) s') : wpAny (model PP C.w) A (storeInDict d (.str name tk) name v) P E s := by
  obtain ⟨o', ho', ⟨es, n, rfl, e1, e2, e3⟩, _⟩ := h.get hd
  obtain ⟨g1, g2⟩ := attrs_add (v := v) (hs := PyData.keyHash C.w.params name) (tk := s.toks) e1 e2 hn
  have p4 : (ns ++ [name]).Nodup := by
    rw [List.nodup_append]
    exact ⟨e3, by simp, fun a ha b hb z => hn (by rw [List.mem_singleton.mp hb] at z; exact z ▸ ha)⟩
  have hl' : (putL name (PyData.keyHash C.w.params name) (.str name s.toks) v es).length ≤ 1000 := by
    have := congrArg List.length g1; simp only [List.length_map] at this; simp at this; omega
  unfold storeInDict newKeyGuard
  refine wpAny_bind (wpAny_pure (wpAny_bind ?_))
  unfold nsSet
  refine wpAny_bind (wpAny_bind (wpAny_askSetting (wpAny_pure (wpAny_bind (wpAny_mkText (wpAny_bind (wpAny_loadPart ho' ?_)))))))
  have c : (!es.toArray.any (·.key.isStr name) && es.toArray.any (·.refKey)) = false := by
    have : es.any (·.refKey) = false := by
      rw [List.any_eq_false]
      intro e he hr
      have : er e.key ∈ es.map (fun e => er e.key) := List.mem_map_of_mem (f := fun e => er e.key) he
      rw [e1] at this
      obtain ⟨z, _, hz⟩ := List.mem_map.mp this
      obtain ⟨t, ht⟩ := key_of hz.symm
      unfold DictEntry.refKey at hr; rw [ht] at hr; cases hr
    rw [← Array.any_toList, ← Array.any_toList]
    simp [this]
  dsimp only
  rw [aRefKeyMayBeTheName_at, c]
  refine wpAny_updatePart ho' ?_
  have D' : (s.heap.update d (Obj.putName name (PyData.keyHash C.w.params name) (.str name s.toks) v)).get? d = some (dictOf (putL name (PyData.keyHash C.w.params name) (.str name s.toks) v es) (putN name es n)) := by
    have := Heap.get?_update_self (h := s.heap) (Obj.putName name (PyData.keyHash C.w.params name) (.str name s.toks) v) ho' (by rw [putName_dict]; rfl)
    rw [this, putName_dict]
  refine wpAny_bind (wpAny_lookBehind D' (pastItsLine_dict (by rw [List.size_toArray, sizeLine_eq]; omega)) ?_)
  refine wpAny_pure ?_
  exact k _ (h.upd (s' := { s with heap := s.heap.update d _, toks := _ }) hd rfl rfl (fun b o hb e => (Heap.get?_update_other _ _ (Ne.symm hb)).trans e) D' ⟨_, _, rfl, g1, g2, p4⟩)
theorem passes_fn (self : Value) : refuseLoop self "__setattr__" [.type "function", .type "object"] = pure () := by kernel_rfl
theorem mro_fn : mroOf (.type "function") = pure [.type "function", .type "object"] := by kernel_rfl
/-- the way to a function's own names -/
theorem am_fnset0 {Q : Unit → Shared → Prop} {v : Value} {o : Obj} (ho : s.heap.get? f = some o) (hc : o.cls = .type "function") (hno : typeLookup (.type "function") name = pure none)
    (k : ∀ A' E' tk P, (∀ s', Q () s' → P (.done (.ret .none)) s') → wpAny (model PP C.w) A' (ownDictForStores (.ref f) >>= fun r => match r with
      | some d => storeInDict d (.str name tk) name v
      | none => noDictFor (.ref f) (.type "function") name false) P E' { s with toks := s.toks + 1 }) : Wp C.w A (setAttr (.ref f) name v) Q E s := by
  refine ⟨?_⟩
  obtain ⟨hp, gg, dr, tk, os⟩ := s
  dsimp only at ho k
  have hT : ∀ t', (⟨hp, gg, dr, t', os⟩ : Shared).TypeIs (.ref f) "function" := fun _ => ⟨_, ho, hc⟩
  unfold setAttr
  refine wpAny_bind (wpAny_mkText (wpAny_bind ?_))
  unfold callSpecial?
  refine wpAny_bind (wpAny_specialOf (hT _) slot_fn_sa.lookup (wpAny_holding (wpAny_bind (wpAny_of_eq (slot_fn_sa.bind _) (wpAny_bind ?_)))))
  refine wpAny_mono (Q := fun v' s' => Q () s') (E := E) (wpAny_call_entry slot_fn_sa (hT _) PySem.F.store_object.entry ?_ (PySem.F.store_object.args _ _ _)) (fun v' s' hv' => wpAny_pure (wpAny_pure hv')) fun _ _ z => z
  show wpAny _ _ (Builtin.«object.__setattr__» ⟨[.ref f, .str name tk, v], []⟩) _ _ (⟨hp, gg, dr, tk + 1, os⟩ : Shared)
  rw [osa_eq, refuse_eq]
  refine wpAny_bind (wpAny_bind (wpAny_typeOf (hT _) (wpAny_bind (wpAny_of_eq mro_fn ?_))))
  rw [passes_fn]
  refine wpAny_pure (wpAny_bind (wpAny_typeOf (hT _) (wpAny_bind (wpAny_of_eq hno (wpAny_bind (wpAny_pure ?_))))))
  show wpAny _ _ (storeInOwnDict _ _ _ _ _ _) _ _ _
  unfold storeInOwnDict
  refine wpAny_bind (wpAny_pure ?_)
  exact k _ _ _ _ fun s' q => ⟨_, rfl, q⟩
theorem am_fnset1 {Q : Unit → Shared → Prop} {v : Value} (h : At F C σ s) (hf : σ.H f = some (.fn fd none)) (hno : typeLookup (.type "function") name = pure none)
    (k : ∀ d s', σ.H d = none → d ≠ f → At F C ((σ.put d (.attrs [name] [er v])).put f (.fn fd (some d))) s' → Q () s') : Wp C.w A (setAttr (.ref f) name v) Q E s := by
  obtain ⟨o, ho, ⟨c1, c2, c3⟩, _⟩ := h.get hf
  refine am_fnset0 ho c1 hno fun A' E' tk P hP => ?_
  have h1 := h.tok (s.toks + 1)
  refine wpAny_bind ?_
  unfold ownDictForStores instanceDict
  refine wpAny_bind (wpAny_loadPart ho ?_)
  rw [c1]
  dsimp only
  rw [c2, c3]
  refine wpAny_bind (wpAny_alloc (wpAny_bind (wpAny_update (o := o) (Heap.get?_push_of_some _ ho) ?_)))
  have ne : s.heap.objs.size ≠ f := Ne.symm (Nat.ne_of_lt (Heap.lt_size ho))
  refine wpAny_pure (a := some s.heap.objs.size) ?_
  have hA := h1.new (s' := { s with heap := s.heap.push emptyDict, toks := s.toks + 1 }) (D := s.heap.objs.size) (ao := .attrs [] []) rfl rfl (fun b o e => Heap.get?_push_of_some _ e) (Heap.get?_push_size _ rfl) ⟨[], 0, rfl, rfl, rfl, .nil⟩ (Nat.le_refl _)
  have hf' : (σ.put s.heap.objs.size (.attrs [] [])).H f = some (.fn fd none) := by
    show hput _ _ _ _ = _; rw [hput_ne (Ne.symm ne)]; exact hf
  have hB := hA.upd (s' := { s with heap := (s.heap.push emptyDict).update f fun o => { o with dict := some s.heap.objs.size }, toks := s.toks + 1 }) (ao' := .fn fd (some s.heap.objs.size)) hf' rfl rfl
    (fun b o hb e => (Heap.get?_update_other _ _ (Ne.symm hb)).trans e) (Heap.get?_update_self _ (Heap.get?_push_of_some _ ho) (by unfold Obj.isFreed; rw [c3])) ⟨c1, rfl, c3⟩
  refine am_storeIn hB (ns := []) (vs := []) ?_ (by simp) (by simp) fun s' hs => hP _ (k s.heap.objs.size s' (h.fresh (Nat.le_refl _)) ne ?_)
  · show hput _ _ _ _ = _; rw [hput_ne ne]; exact hput_self _ _ _
  · refine hs.less (fun _ _ x => x) fun a ao ha => ?_
    dsimp only [St.put] at ha ⊢
    unfold hput at ha ⊢
    by_cases e1 : a = f
    · subst e1; simp only [if_true] at ha; rw [if_neg (Ne.symm ne), if_pos rfl]; exact ha
    · rw [if_neg e1] at ha
      by_cases e2 : a = s.heap.objs.size
      · rw [if_pos e2] at ha ⊢; exact ha
      · rw [if_neg e2] at ha ⊢; rw [if_neg e1, if_neg e2]; exact ha
theorem am_fnset2 {Q : Unit → Shared → Prop} {v : Value} (h : At F C σ s) (hf : σ.H f = some (.fn fd (some d))) (hd : σ.H d = some (.attrs ns vs)) (hn : name ∉ ns) (hl : ns.length < 1000) (hno : typeLookup (.type "function") name = pure none)
    (k : ∀ s', At F C (σ.put d (.attrs (ns ++ [name]) (vs ++ [er v]))) s' → Q () s') : Wp C.w A (setAttr (.ref f) name v) Q E s := by
  obtain ⟨o, ho, ⟨c1, c2, c3⟩, _⟩ := h.get hf
  refine am_fnset0 ho c1 hno fun A' E' tk P hP => ?_
  have h1 := h.tok (s.toks + 1)
  refine wpAny_bind ?_
  unfold ownDictForStores instanceDict
  refine wpAny_bind (wpAny_loadPart ho ?_)
  rw [c1]
  dsimp only
  rw [c2]
  refine wpAny_pure (a := some d) ?_
  exact am_storeIn h1 hd hn hl fun s' hs => hP _ (k s' hs)
end
end Mine

end
section
open PySem PySem.W PyProof.Rows PySem.Calls PyProof.Rows.LCg
namespace Mine

noncomputable def cvs : List (Str × NameKind) → List Str
  | [] => []
  | (n, k) :: r => if k == .cell then n :: cvs r else cvs r
theorem cvs_mem {x : Str} : ∀ {l : List (Str × NameKind)}, x ∈ cvs l → x ∈ l.map (·.1)
  | [], h => by cases h
  | (n, k) :: r, h => by
    unfold cvs at h
    split at h
    · rcases List.mem_cons.mp h with rfl | h
      · exact .head _
      · exact .tail _ (cvs_mem h)
    · exact .tail _ (cvs_mem h)
theorem cells_other {x : Str} : ∀ {l : List (Str × NameKind)} {n : Nat} {acc : List (Str × Addr)}, x ∉ cvs l → (cellsFrom n l acc).lookup x = acc.lookup x
  | [], _, _, _ => rfl
  | (y, k) :: r, n, acc, h => by
    unfold cvs at h
    unfold cellsFrom
    split
    · rename_i hk
      rw [if_pos hk, List.mem_cons, not_or] at h
      rw [cells_other h.2, List.lookup_cons]
      have : (x == y) = false := by simpa using h.1
      rw [this]
    · rename_i hk
      rw [if_neg hk] at h
      exact cells_other h
theorem cells_own {x : Str} : ∀ {l : List (Str × NameKind)} {n i : Nat} {acc : List (Str × Addr)}, (l.map (·.1)).Nodup → (cvs l)[i]? = some x → (cellsFrom n l acc).lookup x = some (n + i)
  | [], _, _, _, _, h => by simp [cvs] at h
  | (y, k) :: r, n, i, acc, hN, h => by
    rw [List.map_cons, List.nodup_cons] at hN
    unfold cvs at h
    unfold cellsFrom
    split
    · rename_i hk
      rw [if_pos hk] at h
      cases i with
      | zero =>
        simp at h; subst h
        rw [cells_other (fun z => hN.1 (cvs_mem z)), List.lookup_cons]
        simp
      | succ i =>
        rw [List.getElem?_cons_succ] at h
        rw [cells_own hN.2 h]
        congr 1; omega
    · rename_i hk
      rw [if_neg hk] at h
      exact cells_own hN.2 h
noncomputable abbrev cellObj : Obj := { cls := .type "cell", data := .cell none }
theorem push_get : ∀ {l : List (Str × NameKind)} {h : Heap} {i : Nat}, i < (cvs l).length → (pushCells h l).get? (h.objs.size + i) = some cellObj
  | [], _, _, h => by simp [cvs] at h
  | (y, k) :: r, h, i, hi => by
    unfold cvs at hi
    unfold pushCells
    split
    · rename_i hk
      rw [if_pos hk] at hi
      cases i with
      | zero => exact pushCells_keeps _ _ _ _ (Heap.get?_push_size _ rfl)
      | succ i =>
        have := push_get (l := r) (h := h.push cellObj) (i := i) (by simpa using hi)
        rw [Heap.size_push] at this
        rw [← this]; congr 1; exact (Nat.succ_add_eq_add_succ _ _).symm
    · rename_i hk
      rw [if_neg hk] at hi
      exact push_get hi

noncomputable def hcells (H : Addr → Option AO) (L n : Nat) : Addr → Option AO := fun a => if L < a ∧ a ≤ L + n then some (.cell none) else H a

/-- the ledger with a shut frame's names in it -/
theorem At.leaveL {F F' : FnS} {C C' : Cx} {σ σ' : St} {s s' : Shared} {m₀ : Str → Option Value} (h : At F C σ s) (hm : ∀ (i : Nat) x av, F.nm[i]? = some x → σ.m[i]? = some (some av) → ∃ v, m₀ x = some v ∧ er v = av) (hg : C'.g = C.g)
    (ho : C'.os = C.os) (hx : C'.outs = (C.L, m₀) :: C.outs) (h' : At F' C' σ' s') : ∃ oL m, s'.heap.get? C'.L = some oL ∧ s'.heap.Ns C'.L m ∧ At F C ⟨σ.m, hput σ'.H C'.L (.raw oL)⟩ s' := by
  have ne := h.outNe
  have ne' := h'.outNe
  obtain ⟨_, fr, _⟩ := h.fr
  obtain ⟨m₁, news', f', N', ND', e', q', x'⟩ := h'.led
  have f'' := f'
  rw [hg] at f' N'
  rw [hx] at x' ne'
  obtain ⟨oL, hL, nL⟩ := x'.1 _ (.head _)
  obtain ⟨oL', hL', nL'⟩ := ns_obj f''.ns
  have gL' : C.g.get? C'.L = none := by
    cases z : C.g.get? C'.L with
    | none => rfl
    | some o => exact absurd (Heap.lt_size z) (Nat.not_lt.mpr f'.above)
  refine ⟨oL', m₁, hL', f''.ns, h'.gens, h'.os.trans ho, h.gnd, h.env, m₀, (C'.L, oL') :: news'.filter (fun p => p.1 != C.L), ⟨nL.ns (N' _ hL).1, f'.keep, fr.above⟩, fun p hp => ?_, ?_, hm, fun a ao ha => ?_, fun p hp => ?_, fun a ao ha p hp => ?_⟩
  · rcases List.mem_cons.mp hp with rfl | hp
    · exact ⟨hL', (ne' _ (.head _)).symm, gL'⟩
    · rw [List.mem_filter] at hp
      exact ⟨(N' p hp.1).1, by simpa using hp.2, (N' p hp.1).2.2⟩
  · rw [List.map_cons, List.nodup_cons]
    refine ⟨fun hm => ?_, List.Nodup.sublist (List.Sublist.map _ (List.filter_sublist)) ND'⟩
    obtain ⟨p, hp, z⟩ := List.mem_map.mp hm
    exact (N' p (List.mem_filter.mp hp).1).2.1 z
  · unfold hput at ha
    dsimp only at ha
    split at ha
    · rename_i z; cases ha; subst z; exact ⟨oL', .head _, rfl⟩
    · obtain ⟨o, hmo, hi⟩ := q' a ao ha
      exact ⟨o, .tail _ (List.mem_filter.mpr ⟨hmo, by simpa using (x'.2 a ao ha _ (.head _)).symm⟩), hi⟩
  · obtain ⟨o, hmo, hi⟩ := x'.1 p (.tail _ hp)
    exact ⟨o, .tail _ (List.mem_filter.mpr ⟨hmo, by simpa using ne p hp⟩), hi⟩
  · unfold hput at ha
    dsimp only at ha
    split at ha
    · rename_i z; subst z; exact ne' p (.tail _ hp)
    · exact x'.2 a ao ha p (.tail _ hp)

/-- what a block's entry hands on -/
structure Entry (A : Around) (F : FnS) (C : Cx) (σ : St) (F' : FnS) (C' : Cx) : Prop where
  w : C'.w = C.w
  g : C'.g = C.g
  back : ∀ σ' s', At F' C' σ' s' → At F C ⟨σ.m, σ'.H⟩ s'
  backL : ∀ σ' s', At F' C' σ' s' → ∃ oL m, s'.heap.get? C'.L = some oL ∧ s'.heap.Ns C'.L m ∧ At F C ⟨σ.m, hput σ'.H C'.L (.raw oL)⟩ s'
  fresh : ∀ a, C'.L ≤ a → σ.H a = none
  stk : C'.env.frame = some C'.L → ∀ fs, Stk A C fs → Stk (A.deeper C'.env) C' (C'.env :: fs)

theorem am_enter {F : FnS} {C : Cx} {σ : St} {s : Shared} {A A₀ : Around} {E : Value → Shared → Prop} {Q : Env → Shared → Prop} (F' : FnS) (ca : Addr → List Addr) (fa : List Addr) (fix : Env → Env) {scope : Scope} {clos : List (Str × Addr)} {binds : List (Str × Value)} {qual : Str} {func : Option Addr} {code : Value} {around : Option Env} {bl : Addr}
    (h : At F C σ s) (hfix : ∀ e, (fix e).locals = e.locals) (hkind : ∀ e, e.scope = scope → (fix e).scope.kind = .function)
    (ok : ∀ L g outs, EnvOk F' ⟨C.w, g, C.os, fix (newEnv scope L mainGlobals (cellsFrom (L + 1) scope.names clos) qual func code around bl), ca L, fa, outs⟩)
    (k : ∀ C' s', Entry A₀ F C σ F' C' → C'.env = fix (newEnv scope C'.L mainGlobals (cellsFrom (C'.L + 1) scope.names clos) qual func code around bl) → C'.fa = fa → C'.ca = ca C'.L →
      At F' C' ⟨List.replicate F'.nm.length none, hcells σ.H C'.L (cvs scope.names).length⟩ s' →
      Wp C.w A (forIn binds PUnit.unit fun x _ => do storeName (newEnv scope C'.L mainGlobals (cellsFrom (C'.L + 1) scope.names clos) qual func code around bl) x.1 x.2; pure (ForInStep.yield PUnit.unit))
        (fun _ s'' => Q (newEnv scope C'.L mainGlobals (cellsFrom (C'.L + 1) scope.names clos) qual func code around bl) s'') E s') :
    Wp C.w A (newFunctionEnv scope mainGlobals clos binds qual func code around bl) Q E s := by
  refine ⟨?_⟩
  obtain ⟨m₀, oL, news, ⟨lf, N, ND, e, q, x⟩, hLo, nL, gL, gsz, ND2, N2, x2⟩ := id h.under
  have key : ∀ (cl : String), wpAny (model PP C.w) A (forIn binds PUnit.unit fun x _ => do storeName (newEnv scope s.heap.objs.size mainGlobals (cellsFrom (s.heap.objs.size + 1) scope.names clos) qual func code around bl) x.1 x.2; pure (ForInStep.yield PUnit.unit))
        (fun _ s'' => Q (newEnv scope s.heap.objs.size mainGlobals (cellsFrom (s.heap.objs.size + 1) scope.names clos) qual func code around bl) s'') E { s with heap := pushCells (s.heap.push { cls := .type cl, data := .dict #[] }) scope.names } := by
    intro cl
    let C' : Cx := ⟨C.w, C.g, C.os, fix (newEnv scope s.heap.objs.size mainGlobals (cellsFrom (s.heap.objs.size + 1) scope.names clos) qual func code around bl), ca s.heap.objs.size, fa, (C.L, m₀) :: C.outs⟩
    have hL : C'.L = s.heap.objs.size := by
      show (fix _).locals = _
      rw [hfix]; cases around <;> rfl
    have keep : ∀ b o, s.heap.get? b = some o → (pushCells (s.heap.push { cls := .type cl, data := .dict #[] }) scope.names).get? b = some o := fun b o e => pushCells_keeps _ _ b o (Heap.get?_push_of_some _ e)
    have cg : ∀ i, i < (cvs scope.names).length → (pushCells (s.heap.push { cls := .type cl, data := .dict #[] }) scope.names).get? (s.heap.objs.size + 1 + i) = some cellObj := fun i hi => by
      have := push_get (l := scope.names) (h := s.heap.push { cls := .type cl, data := .dict #[] }) hi
      rw [Heap.size_push] at this; exact this
    have hns : (pushCells (s.heap.push { cls := .type cl, data := .dict #[] }) scope.names).Ns C'.L (fun _ => none) := by
      rw [hL]; exact (Heap.Ns.new s.heap (.type cl)).keeps (pushCells_keeps _ _)
    have gnone : ∀ a, s.heap.objs.size ≤ a → C'.g.get? a = none := fun a ha => by
      cases z : C'.g.get? a with
      | none => rfl
      | some o => exact absurd (Nat.lt_of_lt_of_le (Heap.lt_size z) gsz) (Nat.not_lt.mpr ha)
    have n2lt : ∀ p ∈ (C.L, oL) :: news, p.1 < s.heap.objs.size := fun p hp => Heap.lt_size (N2 p hp).1
    have hA : At F' C' ⟨List.replicate F'.nm.length none, hcells σ.H C'.L (cvs scope.names).length⟩ { s with heap := pushCells (s.heap.push { cls := .type cl, data := .dict #[] }) scope.names } := by
      refine ⟨h.gens, h.os, h.gnd, ok _ _ _, fun _ => none, (List.range (cvs scope.names).length).map (fun i => (s.heap.objs.size + 1 + i, cellObj)) ++ ((C.L, oL) :: news), ⟨hns, fun b o e => keep b o (lf.keep b o e), ?_⟩, fun p hp => ?_, ?_, fun i x av hx hv => ?_, fun a ao ha => ?_, fun p hp => ?_, fun a ao ha p hp => ?_⟩
      · rw [hL]; exact gsz
      · rcases List.mem_append.mp hp with hp | hp
        · obtain ⟨i, hi, rfl⟩ := List.mem_map.mp hp
          rw [List.mem_range] at hi
          refine ⟨cg i hi, ?_, gnone _ (Nat.le_trans (Nat.le_succ _) (Nat.le_add_right _ _))⟩
          rw [hL]; exact Nat.ne_of_gt (Nat.lt_of_lt_of_le (Nat.lt_succ_self _) (Nat.le_add_right _ _))
        · refine ⟨keep _ _ (N2 p hp).1, ?_, (N2 p hp).2⟩
          rw [hL]; exact Nat.ne_of_lt (n2lt p hp)
      · rw [List.map_append, List.nodup_append]
        refine ⟨?_, ND2, fun a ha b hb z => ?_⟩
        · rw [List.map_map]
          refine List.Pairwise.map _ (fun a b (z : a ≠ b) z' => z ?_) List.nodup_range
          exact Nat.add_left_cancel z'
        · obtain ⟨p, hp, rfl⟩ := List.mem_map.mp ha
          obtain ⟨i, hi, rfl⟩ := List.mem_map.mp hp
          obtain ⟨p', hp', rfl⟩ := List.mem_map.mp hb
          have := n2lt p' hp'
          rw [← z] at this
          exact absurd this (Nat.not_lt.mpr (Nat.le_trans (Nat.le_succ _) (Nat.le_add_right _ _)))
      · dsimp only at hv
        rw [List.getElem?_replicate] at hv
        split at hv <;> cases hv
      · dsimp only [hcells] at ha
        split at ha
        · rename_i z
          cases ha
          refine ⟨cellObj, List.mem_append_left _ (List.mem_map.mpr ⟨a - (s.heap.objs.size + 1), List.mem_range.mpr ?_, ?_⟩), .inl ⟨rfl, rfl⟩⟩
          · rw [hL] at z
            exact Nat.sub_lt_left_of_lt_add z.1 (Nat.lt_of_le_of_lt z.2 (by rw [Nat.add_right_comm]; exact Nat.lt_succ_self _))
          · rw [hL] at z
            have : s.heap.objs.size + 1 + (a - (s.heap.objs.size + 1)) = a := Nat.add_sub_cancel' z.1
            rw [this]
        · obtain ⟨o, hm, hi⟩ := q a ao ha; exact ⟨o, List.mem_append_right _ (.tail _ hm), hi⟩
      · obtain ⟨o, hm, hi⟩ := x2.1 p hp; exact ⟨o, List.mem_append_right _ hm, hi⟩
      · obtain ⟨o, hm, hi⟩ := x2.1 p hp
        dsimp only [hcells] at ha
        split at ha
        · rename_i z
          rw [hL] at z
          exact fun z' => absurd (n2lt _ hm) (Nat.not_lt.mpr (z' ▸ Nat.le_of_lt z.1))
        · exact x2.2 a ao ha p hp
    have hE : Entry A₀ F C σ F' C' := by
      refine ⟨rfl, rfl, fun σ' s' h' => At.leave (C' := C') h e rfl rfl rfl h', fun σ' s' h' => At.leaveL (C' := C') h e rfl rfl rfl h', fun a ha => h.fresh (hL ▸ ha), fun hf fs hb => ?_⟩
      refine ⟨Around.frames_deeper hb.fr, fun e he => ?_⟩
      rcases List.mem_cons.mp he with rfl | he
      · exact ⟨hkind _ (by cases around <;> rfl), _, hf, .inl rfl⟩
      · obtain ⟨k1, L, k2, k3⟩ := hb.env e he
        refine ⟨k1, L, k2, .inr ?_⟩
        rcases k3 with rfl | ⟨p, hp, rfl⟩
        · exact ⟨_, .head _, rfl⟩
        · exact ⟨p, .tail _ hp, rfl⟩
    have := (k C' _ hE (by rw [hL]) rfl (by rw [hL]) hA).ok
    rw [hL] at this
    exact this
  have lay : ∀ (cl : String) (f : Str × NameKind → List (Str × Addr) → Sem (ForInStep (List (Str × Addr)))) (_ : ∀ name kind cells, f (name, kind) cells = if kind == .cell then (do let a ← alloc { cls := .type "cell", data := .cell none }; pure (.yield ((name, a) :: cells))) else pure (.yield cells))
      (P : List (Str × Addr) → Shared → Prop), P (cellsFrom (s.heap.objs.size + 1) scope.names clos) { s with heap := pushCells (s.heap.push { cls := .type cl, data := .dict #[] }) scope.names } →
      wpAny (model PP C.w) A (forIn scope.names clos f) P E { s with heap := s.heap.push { cls := .type cl, data := .dict #[] } } := by
    intro cl f hf P hP
    refine wpAny_layCells f hf _ _ _ _ ?_
    rw [show ({ s with heap := s.heap.push { cls := .type cl, data := .dict #[] } } : Shared).heap.objs.size = s.heap.objs.size + 1 from Heap.size_push ..]
    exact hP
  cases around with
  | none =>
    simp only [newFunctionEnv, Option.isSome_none, Bool.false_eq_true, if_false]
    refine wpAny_bind (wpAny_alloc (wpAny_bind (lay _ _ (fun name kind cells => by cases hkc : kind == NameKind.cell <;> simp [hkc]) _ ?_)))
    exact wpAny_bind (wpAny_mono (key _) (fun _ s' x => wpAny_pure x) fun _ _ x => x)
  | some outer =>
    simp only [newFunctionEnv, Option.isSome_some, if_true]
    refine wpAny_bind (wpAny_alloc (wpAny_bind (lay _ _ (fun name kind cells => by cases hkc : kind == NameKind.cell <;> simp [hkc]) _ ?_)))
    exact wpAny_bind (wpAny_mono (key _) (fun _ s' x => wpAny_pure x) fun _ _ x => x)
end Mine

end
section
open PySem PySem.W PyProof.Rows PySem.Calls
namespace Mine

noncomputable def chkC (F : FnS) (sc : Scope) : Bool :=
  sc.kind == .function && nodupB F.nm && (F.cv == cvs sc.names) && nodupB (sc.names.map (·.1)) && chkNames sc .local F.nm && chkNames sc .cell F.cv && chkNames sc .free F.fv && F.fv.all (fun x => !(cvs sc.names).contains x) && chkNames sc .globalImplicit F.gl

theorem envOk_of {F : FnS} {sc : Scope} (c : chkC F sc = true) {w : World} {g : Heap} {os : OsState} {outs : List (Addr × (Str → Option Value))} {L : Addr} {clos : List (Str × Addr)} {fa : List Addr} (hfv : ∀ (i : Nat) x c, F.fv[i]? = some x → fa[i]? = some c → clos.lookup x = some c) {qual : Str} {func : Option Addr} {code : Value} {around : Option Env} {bl : Addr}
    (hb : (newEnv sc L mainGlobals (cellsFrom (L + 1) sc.names clos) qual func code around bl).builtins = builtinsNs) :
    EnvOk F ⟨w, g, os, newEnv sc L mainGlobals (cellsFrom (L + 1) sc.names clos) qual func code around bl, (List.range (cvs sc.names).length).map (L + 1 + ·), fa, outs⟩ := by
  simp only [chkC, Bool.and_eq_true, beq_iff_eq] at c
  obtain ⟨⟨⟨⟨⟨⟨⟨⟨c1, c2⟩, c3⟩, c4⟩, c5⟩, c6⟩, c7⟩, c8⟩, c9⟩ := c
  have e1 : (newEnv sc L mainGlobals (cellsFrom (L + 1) sc.names clos) qual func code around bl).scope = sc := by cases around <;> rfl
  have e2 : (newEnv sc L mainGlobals (cellsFrom (L + 1) sc.names clos) qual func code around bl).cells = cellsFrom (L + 1) sc.names clos := by cases around <;> rfl
  have e3 : ∀ x, (newEnv sc L mainGlobals (cellsFrom (L + 1) sc.names clos) qual func code around bl).kindOf x = sc.names.lookup x := fun x => by cases around <;> rfl
  refine ⟨by rw [e1]; exact c1, by cases around <;> rfl, hb, fun i x hx => ?_, nodupB_of c2, fun i x hx => ?_, fun i x hx => ?_, fun i x hx => ?_⟩
  · rw [e3]; exact ⟨(chkNames_of c5 hx).1, (chkNames_of c5 hx).2.1⟩
  · rw [e3]
    refine ⟨(chkNames_of c6 hx).1, (chkNames_of c6 hx).2.1, fun c hc => ?_⟩
    rw [e2]
    rw [c3] at hx
    rw [cells_own (nodupB_of c4) hx]
    dsimp only at hc
    rw [List.getElem?_map, List.getElem?_range (List.getElem?_eq_some_iff.mp hx).1] at hc
    exact hc
  · rw [e3]
    refine ⟨(chkNames_of c7 hx).1, (chkNames_of c7 hx).2.1, (chkNames_of c7 hx).2.2, fun c hc => ?_⟩
    rw [e2]
    have := List.all_eq_true.mp c8 x (List.mem_of_getElem? hx)
    rw [cells_other (fun z => by rw [List.contains_iff_mem.mpr z] at this; cases this)]
    exact hfv i x c hx hc
  · rw [e3]; exact ⟨(chkNames_of c9 hx).1, (chkNames_of c9 hx).2.1⟩

/-- what is fixed of a function that may have cells of its own -/
structure FnC (F : FnS) (fd : FuncData) : Prop where
  glob : fd.globals = mainGlobals
  blt : fd.builtins = builtinsNs
  co : fd.scope.isCoroutine = false
  gen : fd.scope.isGenerator = false
  chk : chkC F fd.scope = true

section
variable {F F' : FnS} {C : Cx} {σ : St} {s : Shared} {A : Around} {E : Value → Shared → Prop} {R : Result → Shared → Prop} {f : Addr} {fo : Obj} {fd : FuncData} {body : List Stmt} {vs : List Value} {binds : List (Str × Value)}

noncomputable abbrev bindStep (env : Env) (x : Str × Value) (_ : PUnit) : Sem (ForInStep PUnit) := do storeName env x.1 x.2; pure (ForInStep.yield PUnit.unit)
theorem wp_bind0 {w : World} {env : Env} {Q : PUnit → Shared → Prop} (h : Q PUnit.unit s) : Wp w A (forIn ([] : List (Str × Value)) PUnit.unit (bindStep env)) Q E s := ⟨by rw [List.forIn_nil]; exact wpAny_pure h⟩
theorem wp_bind1 {w : World} {env : Env} {x : Str} {v : Value} {Q : PUnit → Shared → Prop} (h : Wp w A (storeName env x v) (fun _ s₁ => Wp w A (forIn binds PUnit.unit (bindStep env)) Q E s₁) E s) : Wp w A (forIn ((x, v) :: binds) PUnit.unit (bindStep env)) Q E s :=
  ⟨by rw [List.forIn_cons]; exact wpAny_bind (wpAny_bind (h.up fun _ _ y => wpAny_pure y.ok))⟩

noncomputable abbrev callEnvX (fd : FuncData) (L f : Addr) : Env := newEnv fd.scope L mainGlobals (cellsFrom (L + 1) fd.scope.names fd.closure) (fd.qualname ++ ".<locals>.") (some f) fd.code none builtinsNs
theorem At.noLimit (h : At F C σ s) : s.heap.NoLimit := by
  obtain ⟨p, l, me, mg, mb, T, hT⟩ := h.gnd.top
  exact T.nolimit.keeps h.keep
/-- a call: the names are bound, the body runs, the way back -/
theorem am_callE (h : At F C σ s) (hf : s.heap.get? f = some fo) (hd : fo.data = .func fd) (S : FnC F' fd) (hc : s.heap.CodeRec fd.code fd.qualname) (hb : bindArgs fd ⟨vs, []⟩ = pure binds) (hroom : A.depth < recursionLimit) (fa : List Addr)
    (hfv : ∀ (i : Nat) x c, F'.fv[i]? = some x → fa[i]? = some c → fd.closure.lookup x = some c) (hbody : fd.body = .stmts body)
    (k : ∀ C' s', Entry A F C σ F' C' → C'.fa = fa → C'.ca = (List.range (cvs fd.scope.names).length).map (C'.L + 1 + ·) → C'.env = callEnvX fd C'.L f →
      At F' C' ⟨List.replicate F'.nm.length none, hcells σ.H C'.L (cvs fd.scope.names).length⟩ s' →
      ∀ E', Wp C'.w A.in1 (forIn binds PUnit.unit (bindStep C'.env)) (fun _ s'' => ∃ σ'', At F' C' σ'' s'' ∧
        Wp C'.w (A.deeper C'.env) (execs body C'.env) (Back F C σ F' C' R) (LeaveE C.w A C'.env R) s'') E' s') :
    Cd C.w A (.call (.ref f) ⟨vs, []⟩) R s := by
  refine ⟨codeAny_call_function (body := body) hroom hf hd S.co S.gen hbody hc ?_⟩
  rw [hb]
  refine wpAny_pure ?_
  rw [S.glob, S.blt]
  refine (am_enter (A₀ := A) F' (fun L => (List.range (cvs fd.scope.names).length).map (L + 1 + ·)) fa id h (fun _ => rfl) (fun e he => ?_) (fun L g outs => ?_) fun C' s' hE he hfa hca h' => ?_).ok
  · have := S.chk; simp only [chkC, Bool.and_eq_true, beq_iff_eq] at this
    show e.scope.kind = _
    rw [he]; exact this.1.1.1.1.1.1.1.1
  · exact envOk_of S.chk hfv rfl
  · have := k C' s' hE hfa hca he h' (fun e s' => R (.error e) s')
    rw [hE.w, show C'.env = _ from he] at this
    refine this.mono fun _ s'' ⟨σ'', h'', z⟩ => ⟨h''.noLimit, codeAny_func ?_⟩
    refine wpAny_mono z.ok (fun fl s₃ hl' => ?_) fun _ _ y => y
    obtain ⟨σ', h', kk⟩ := hl'
    have := kk (hE.back σ' _ h')
    cases fl <;> exact this
end

section mk
variable {F : FnS} {C : Cx} {σ : St} {s : Shared} {A : Around} {E : Value → Shared → Prop} {c P : Addr} {ps : Array Value} {name qual : Str} {params : Arguments} {scope : Scope} {clos : List (Str × Addr)} {pos : Pos} {fl : Nat}
noncomputable abbrev fdDef (name qual : Str) (params : Arguments) (body : List Stmt) (scope : Scope) (clos : List (Str × Addr)) (doc pm : Value) (c' : Addr) (ctv : Value) : FuncData := fnX name qual params body scope clos .none .none doc pm none (.ref c') ctv
theorem At.put2 {s' : Shared} {D : Addr} {ao ao' aoD : AO} {oP oD : Obj} (h : At F C σ s) (ha : σ.H P = some ao) (hg : s'.gens = s.gens) (ho : s'.os = s.os) (k : ∀ b o, b ≠ P → s.heap.get? b = some o → s'.heap.get? b = some o) (hP : s'.heap.get? P = some oP) (hi : ao'.Is oP)
    (hD : s'.heap.get? D = some oD) (hiD : aoD.Is oD) (hlt : s.heap.objs.size ≤ D) : At F C ((σ.put P ao').put D aoD) s' := by
  obtain ⟨m₀, news, f, N, ND, e, q, x⟩ := h.led
  obtain ⟨o, hm, _⟩ := q P ao ha
  have na := N _ hm
  have below : ∀ p ∈ news, p.1 ≠ D := fun p hp z => absurd (Heap.lt_size (N p hp).1) (Nat.not_lt.mpr (z ▸ hlt))
  have e1 : (news.map (fun p => if p.1 = P then (P, oP) else p)).map (·.1) = news.map (·.1) := by
    rw [List.map_map]
    refine List.map_congr_left fun p _ => ?_
    simp only [Function.comp]
    split
    · rename_i z; exact z.symm
    · rfl
  refine ⟨hg.trans h.gens, ho.trans h.os, h.gnd, h.env, m₀, (D, oD) :: news.map (fun p => if p.1 = P then (P, oP) else p), ⟨f.ns.extBut (fun b o hb e => k b o hb e) na.2.1.symm, fun b ob e => k b ob (fun z => ?_) (f.keep b ob e), f.above⟩, fun p hp => ?_, ?_, e, fun b bo hb => ?_, fun p hp => ?_, fun b bo hb p hp => ?_⟩
  · rw [z, na.2.2] at e; cases e
  · rcases List.mem_cons.mp hp with rfl | hp
    · refine ⟨hD, Nat.ne_of_gt (Nat.lt_of_lt_of_le f.ns.lt hlt), ?_⟩
      cases z : C.g.get? D with
      | none => rfl
      | some o' => exact absurd (Heap.lt_size (f.keep _ _ z)) (Nat.not_lt.mpr hlt)
    · obtain ⟨p₀, hp₀, rfl⟩ := List.mem_map.mp hp
      split
      · exact ⟨hP, na.2⟩
      · rename_i z; exact ⟨k _ _ z (N p₀ hp₀).1, (N p₀ hp₀).2⟩
  · rw [List.map_cons, e1, List.nodup_cons]
    refine ⟨fun hm => ?_, ND⟩
    obtain ⟨p, hp, z⟩ := List.mem_map.mp hm
    exact below p hp z
  · unfold St.put hput at hb
    dsimp only at hb
    split at hb
    · rename_i z; cases hb; subst z; exact ⟨oD, .head _, hiD⟩
    · split at hb
      · rename_i z; cases hb; subst z
        exact ⟨oP, .tail _ (List.mem_map.mpr ⟨_, hm, by simp⟩), hi⟩
      · rename_i z
        obtain ⟨ob, hmb, hib⟩ := q b bo hb
        exact ⟨ob, .tail _ (List.mem_map.mpr ⟨_, hmb, by simp [z]⟩), hib⟩
  · obtain ⟨ob, hmb, hib⟩ := x.1 p hp
    exact ⟨ob, .tail _ (List.mem_map.mpr ⟨_, hmb, by simp [x.2 P ao ha p hp]⟩), hib⟩
  · unfold St.put hput at hb
    dsimp only at hb
    split at hb
    · rename_i z; subst z
      obtain ⟨o', hm', _⟩ := x.1 p hp
      exact below _ hm'
    · split at hb
      · rename_i z; subst z; exact x.2 _ ao ha p hp
      · exact x.2 b bo hb p hp
theorem mk_at (h : At F C σ s) {ps' : Array Value} (hP : σ.H P = some (.raw (tabObj ps))) {c' : Addr} {h' : Heap} {tk : Nat} {fd : FuncData} (hx : Heap.ExtBut P s.heap h') (hge : s.heap.objs.size ≤ c') (_hlt : c' < h'.objs.size) (hrec : h'.CodeRec (.ref c') qual)
    (htb : h'.get? P = some (tabObj ps')) : At F C (((σ.put P (.raw (tabObj ps'))).put c' (.code qual)).put h'.objs.size (.fn fd none)) { s with heap := h'.push { cls := .type "function", data := .func fd }, toks := tk } := by
  obtain ⟨c₂, oc, vs, t, e2, hoc, hd, hv⟩ := hrec
  cases e2
  have := h.put2 (s' := { s with heap := h' }) (ao' := .raw (tabObj ps')) (aoD := .code qual) hP rfl rfl hx htb rfl hoc ⟨vs, t, hd, hv⟩ hge
  exact this.new (s' := { s with heap := h'.push { cls := .type "function", data := .func fd }, toks := tk }) rfl rfl (fun b o e => Heap.get?_push_of_some _ e) (Heap.get?_push_size _ rfl) ⟨rfl, rfl, rfl⟩ (Nat.le_refl _)
theorem mk_facts (h : At F C σ s) (hP : σ.H P = some (.raw (tabObj ps))) : ∃ mg, s.heap.Ns mainGlobals mg ∧ s.heap.get? P = some (tabObj ps) ∧ mainGlobals ≠ P ∧ s.heap.BuiltinsAt mg P := by
  obtain ⟨p, l, me, mg, mb, T, hT⟩ := h.gnd.top
  obtain ⟨o, ho, hi, _⟩ := h.get hP
  cases hi
  have hgs := T.g.keeps h.keep
  obtain ⟨bm, ob, b1, b2, b3, b4, b5, b6⟩ := T.bmain
  have hgP : mainGlobals ≠ P := fun q => by
    obtain ⟨o, es, ep, e, hd, _⟩ := hgs
    rw [q, ho] at e; cases e; cases hd
  have hbP : bm ≠ P := fun q => by
    have e := h.keep _ _ b3
    rw [q, ho] at e; cases e; cases b4
  have hbG : bm ≠ mainGlobals := fun q => by
    obtain ⟨o, es, ep, e, hd, _⟩ := T.g
    rw [q, e] at b3; cases b3; rw [hd] at b6; cases b6
  exact ⟨mg, hgs, ho, hgP, bm, ob, b1, b2, hbG, hbP, h.keep _ _ b3, b4, b5, b6⟩
theorem am_mkdef {Q : Value → Shared → Prop} {body : List Stmt} (h : At F C σ s) (hcode : C.env.code = .ref c) (hC : CodeHd C.g c P) (hP : σ.H P = some (.raw (tabObj ps))) (ht : TriplesOk ps.toList) (hnf : codeAmong pos ps.toList = none) (hcl : closureFor scope C.env = pure clos)
    (k : ∀ f c' s' doc pm ctv, σ.H f = none → σ.H c' = none → f ≠ c' → At F C (((σ.put P (.raw (tabObj (ps ++ #[rawInt pos.line, rawInt pos.col, .ref c'])))).put c' (.code qual)).put f (.fn (fdDef name qual params body scope clos doc pm c' ctv) none)) s' → Q (.ref f) s') :
    Wp C.w A (makeFunction name qual params (.stmts body) scope C.env [] [] [] pos fl) Q E s := by
  obtain ⟨mg, f1, f2, f3, f4⟩ := mk_facts h hP
  refine ⟨makeFunction_K hcl h.env.glob f1 hcode (hC.keeps h.keep) f2 ht hnf f3 f4 fun c' ctv doc h' tk hx hge hlt hrec htb => ?_⟩
  exact k _ c' _ doc _ ctv (h.fresh (Nat.le_of_lt (Nat.lt_of_le_of_lt hge hlt))) (h.fresh hge) (Nat.ne_of_gt hlt) (mk_at h hP hx hge hlt hrec htb)
theorem am_mklam {Q : Value → Shared → Prop} {body : Expr} (h : At F C σ s) (hcode : C.env.code = .ref c) (hC : CodeHd C.g c P) (hP : σ.H P = some (.raw (tabObj ps))) (ht : TriplesOk ps.toList) (hnf : codeAmong pos ps.toList = none) (hcl : closureFor scope C.env = pure clos) (hdef : defaultsOf params C.env = ([], []))
    (k : ∀ f c' s' pm ctv, σ.H f = none → σ.H c' = none → f ≠ c' → At F C (((σ.put P (.raw (tabObj (ps ++ #[rawInt pos.line, rawInt pos.col, .ref c'])))).put c' (.code (C.env.qual ++ "<lambda>"))).put f (.fn (kla_fn "<lambda>" (C.env.qual ++ "<lambda>") params body scope clos pm (.ref c') ctv) none)) s' → Q (.ref f) s') :
    Wp C.w A (eval (.Lambda params body scope pos) C.env) Q E s := by
  obtain ⟨mg, f1, f2, f3, f4⟩ := mk_facts h hP
  refine ⟨kla_eval hdef (kla_makeFunction hcl h.env.glob f1 hcode (hC.keeps h.keep) f2 ht hnf f3 f4 fun c' ctv h' tk hx hge hlt hrec htb => ?_)⟩
  exact k _ c' _ _ ctv (h.fresh (Nat.le_of_lt (Nat.lt_of_le_of_lt hge hlt))) (h.fresh hge) (Nat.ne_of_gt hlt) (mk_at h hP hx hge hlt hrec htb)
theorem wp_def {w : World} {env : Env} {body : List Stmt} {Q : Flow → Shared → Prop} (hd0 : params.defaults = []) (hk0 : params.kw_defaults = []) (ha : annTrees params none env = [])
    (h : Wp w A (makeFunction name (qualnameIn env name name) params (.stmts body) scope env [] [] [] pos pos.line) (fun v s' => Wp w A (storeName env name v) (fun _ s'' => Q .next s'') E s') E s) :
    Wp w A (exec (.FunctionDef name params body [] none [] scope none name pos) env) Q E s := ⟨nestDef_K hd0 hk0 ha (h.up fun _ _ x => x.ok)⟩
/-- a lambda of no names is called -/
theorem am_lamcall {R : Result → Shared → Prop} {F' : FnS} {f : Addr} {fo : Obj} {fd : FuncData} {body : Expr} (h : At F C σ s) (hf : s.heap.get? f = some fo) (hd : fo.data = .func fd) (S : FnC F' fd) (hc : s.heap.CodeRec fd.code fd.qualname) (hb : bindArgs fd ⟨[], []⟩ = pure []) (hroom : A.depth < recursionLimit) (fa : List Addr)
    (hfv : ∀ (i : Nat) x c, F'.fv[i]? = some x → fa[i]? = some c → fd.closure.lookup x = some c) (hbody : fd.body = .expr body) (hcv : cvs fd.scope.names = [])
    (k : ∀ C' s', Entry A F C σ F' C' → C'.fa = fa → At F' C' ⟨List.replicate F'.nm.length none, σ.H⟩ s' → ∀ E', Wp C'.w (A.deeper C'.env) (eval body C'.env) (fun v s'' => Back F C σ F' C' R (.ret v) s'') E' s') :
    Cd C.w A (.call (.ref f) ⟨[], []⟩) R s := by
  refine ⟨kla_callFunE (body := body) hroom hf hd S.co S.gen hbody hc ?_⟩
  rw [hb]
  refine wpAny_pure ?_
  rw [S.glob, S.blt]
  refine (am_enter (A₀ := A) F' (fun L => (List.range (cvs fd.scope.names).length).map (L + 1 + ·)) fa id h (fun _ => rfl) (fun e he => ?_) (fun L g outs => ?_) fun C' s' hE he hfa hca h' => ?_).ok
  · have := S.chk; simp only [chkC, Bool.and_eq_true, beq_iff_eq] at this
    show e.scope.kind = _
    rw [he]; exact this.1.1.1.1.1.1.1.1
  · exact envOk_of S.chk hfv rfl
  · have e0 : hcells σ.H C'.L (cvs fd.scope.names).length = σ.H := by
      funext a; unfold hcells; rw [hcv]; exact if_neg fun z => absurd (Nat.lt_of_lt_of_le z.1 z.2) (Nat.lt_irrefl _)
    rw [e0] at h'
    have := fun E' => k C' s' hE hfa h' E'
    rw [hE.w, show C'.env = _ from he] at this
    refine wp_bind0 ⟨h'.noLimit, kla_codeExpr (wpAny_mono (this _).ok (fun v s₃ hl' => ?_) fun _ _ y => y)⟩
    obtain ⟨σ', h', kk⟩ := hl'
    exact kk (hE.back σ' _ h')
end mk
end Mine

end
section
open PySem PySem.W PyProof.Rows PySem.Calls
namespace Mine

noncomputable def closL (look : Str → Option Addr) : List (Str × NameKind) → List (Str × Addr) → List (Str × Addr)
  | [], acc => acc
  | (n, k) :: r, acc => if k == .free then closL look r ((n, (look n).getD 0) :: acc) else closL look r acc
theorem closureFor_L {scope : Scope} {env : Env} (h : ∀ n, (n, NameKind.free) ∈ scope.names → ∃ a, env.cells.lookup n = some a) : closureFor scope env = pure (closL (fun n => env.cells.lookup n) scope.names []) := by
  unfold closureFor
  have : ∀ (l : List (Str × NameKind)) (acc : List (Str × Addr)), (∀ n, (n, NameKind.free) ∈ l → ∃ a, env.cells.lookup n = some a) →
      (forIn l acc fun x r => (match x with | (name, kind) => if (kind == NameKind.free) = true then do let a ← cellOf env name; pure (ForInStep.yield ((name, a) :: r)) else pure (ForInStep.yield r) : Sem (ForInStep (List (Str × Addr))))) = pure (closL (fun n => env.cells.lookup n) l acc) := by
    intro l
    induction l with
    | nil => intro acc _; rfl
    | cons x r ih =>
      intro acc hl
      obtain ⟨n, k⟩ := x
      rw [List.forIn_cons]
      unfold closL
      cases hk : k == NameKind.free with
      | true =>
        have : k = .free := by simpa using hk
        subst this
        obtain ⟨a, ha⟩ := hl n (.head _)
        simp only [if_true, cellOf, ha, Option.getD_some, pure_bind]
        exact ih _ fun n hn => hl n (.tail _ hn)
      | false =>
        simp only [hk, Bool.false_eq_true, if_false, pure_bind]
        exact ih _ fun n hn => hl n (.tail _ hn)
  have := this scope.names [] h
  simp only [this]
  rfl
theorem closL_other {look : Str → Option Addr} {x : Str} : ∀ {l : List (Str × NameKind)} {acc : List (Str × Addr)}, (x, NameKind.free) ∉ l → (closL look l acc).lookup x = acc.lookup x
  | [], _, _ => rfl
  | (n, k) :: r, acc, h => by
    unfold closL
    split
    · rename_i hk
      have hk : k = .free := by simpa using hk
      subst hk
      have : (x == n) = false := by
        have : x ≠ n := fun z => h (z ▸ .head _)
        simpa using this
      rw [closL_other (fun z => h (.tail _ z)), List.lookup_cons, this]
    · exact closL_other fun z => h (.tail _ z)
theorem closL_own {look : Str → Option Addr} {x : Str} : ∀ {l : List (Str × NameKind)} {acc : List (Str × Addr)}, (x, NameKind.free) ∈ l → (closL look l acc).lookup x = some ((look x).getD 0)
  | (n, k) :: r, acc, h => by
    unfold closL
    by_cases hr : (x, NameKind.free) ∈ r
    · split
      · exact closL_own hr
      · exact closL_own hr
    · rcases List.mem_cons.mp h with e | e
      · cases e
        rw [if_pos (by simp), closL_other hr, List.lookup_cons]
        simp
      · exact absurd e hr

inductive Caps (F : FnS) (C : Cx) : List Str → List Addr → Prop
  | nil : Caps F C [] []
  | cons {x : Str} {a : Addr} {xs : List Str} {as : List Addr} (i : Nat) : F.cv[i]? = some x → C.ca[i]? = some a → Caps F C xs as → Caps F C (x :: xs) (a :: as)
theorem Caps.get {F : FnS} {C : Cx} : ∀ {xs : List Str} {as : List Addr}, Caps F C xs as → ∀ (j : Nat) x, xs[j]? = some x → ∃ (i : Nat) (a : Addr), F.cv[i]? = some x ∧ C.ca[i]? = some a ∧ as[j]? = some a
  | _, _, .nil, j, x, h => by simp at h
  | _, _, .cons i h1 h2 r, 0, x, h => by
    simp at h; subst h
    exact ⟨i, _, h1, h2, rfl⟩
  | _, _, .cons i h1 h2 r, j + 1, x, h => by
    rw [List.getElem?_cons_succ] at h
    obtain ⟨i', a, q1, q2, q3⟩ := r.get j x h
    exact ⟨i', a, q1, q2, by rw [List.getElem?_cons_succ]; exact q3⟩

noncomputable def chkR (F' : FnS) (sc : Scope) (cap : List Str) : Bool :=
  sc.kind == .function && nodupB F'.nm && (F'.cv == cvs sc.names ++ cap) && nodupB (sc.names.map (·.1)) && chkNames sc .local F'.nm && chkNames sc .cell (cvs sc.names) && chkNames sc .free cap && F'.fv.isEmpty && chkNames sc .globalImplicit F'.gl &&
  sc.names.all (fun x => x.2 != .free || cap.contains x.1) && cap.all (fun x => sc.names.contains (x, .free)) && sc.names.all (fun x => x.2 != .local || sc.names.lookup x.1 == some .local) && cap.all (fun x => !(cvs sc.names).contains x)

theorem relabel_same {env : Env} {x : Str} {k : NameKind} (hk : k ≠ .free) : ∀ {names : List (Str × NameKind)}, names.lookup x = some k →
    (names.map fun (n, k) => if (k == NameKind.free && env.scope.kind == .function && env.kindOf n == some .cell) then (n, NameKind.cell) else (n, k)).lookup x = some k
  | [], h => by simp at h
  | (n, k') :: r, h => by
    have ih := @relabel_same env x k hk r
    show List.lookup x ((if (k' == NameKind.free && env.scope.kind == .function && env.kindOf n == some .cell) = true then (n, NameKind.cell) else (n, k')) :: _) = _
    cases hx : x == n with
    | true =>
      simp only [List.lookup_cons, hx] at h
      cases h
      have : (k == NameKind.free) = false := by simpa using hk
      simp [List.lookup_cons, hx, this]
    | false =>
      simp only [List.lookup_cons, hx] at h
      by_cases hc : (k' == NameKind.free && env.scope.kind == .function && env.kindOf n == some .cell) = true
      · rw [if_pos hc]; simp only [List.lookup_cons, hx]; exact ih h
      · rw [if_neg hc]; simp only [List.lookup_cons, hx]; exact ih h
theorem relabel_free {env : Env} {x : Str} (hf : env.scope.kind = .function) (hc : env.kindOf x = some .cell) : ∀ {names : List (Str × NameKind)}, names.lookup x = some .free →
    (names.map fun (n, k) => if (k == NameKind.free && env.scope.kind == .function && env.kindOf n == some .cell) then (n, NameKind.cell) else (n, k)).lookup x = some .cell
  | [], h => by simp at h
  | (n, k') :: r, h => by
    have ih := @relabel_free env x hf hc r
    show List.lookup x ((if (k' == NameKind.free && env.scope.kind == .function && env.kindOf n == some .cell) = true then (n, NameKind.cell) else (n, k')) :: _) = _
    cases hx : x == n with
    | true =>
      simp only [List.lookup_cons, hx] at h
      cases h
      have : x = n := by simpa using hx
      subst this
      simp [hf, hc]
    | false =>
      simp only [List.lookup_cons, hx] at h
      by_cases hc : (k' == NameKind.free && env.scope.kind == .function && env.kindOf n == some .cell) = true
      · rw [if_pos hc]; simp only [List.lookup_cons, hx]; exact ih h
      · rw [if_neg hc]; simp only [List.lookup_cons, hx]; exact ih h

section
variable {F F' : FnS} {C : Cx} {σ : St} {s : Shared} {A : Around} {E : Value → Shared → Prop} {scope : Scope} {cap : List Str} {capa : List Addr}
noncomputable abbrev compFix (scope : Scope) (env : Env) (e : Env) : Env := { e with scope := relabel scope env }
theorem envOk_comp (hC : EnvOk F C) (c : chkR F' scope cap = true) (hcap : Caps F C cap capa) {w : World} {g : Heap} {os : OsState} {outs : List (Addr × (Str → Option Value))} {L : Addr} :
    EnvOk F' ⟨w, g, os, compFix scope C.env (newEnv scope L mainGlobals (cellsFrom (L + 1) scope.names (closL (fun n => C.env.cells.lookup n) scope.names [])) C.env.qual none .none (some C.env) builtinsNs), (List.range (cvs scope.names).length).map (L + 1 + ·) ++ capa, [], outs⟩ := by
  simp only [chkR, Bool.and_eq_true, beq_iff_eq, List.isEmpty_iff] at c
  obtain ⟨⟨⟨⟨⟨⟨⟨⟨⟨⟨⟨⟨c1, c2⟩, c3⟩, c4⟩, c5⟩, c6⟩, c7⟩, c8⟩, c9⟩, c10⟩, c11⟩, c12⟩, c13⟩ := c
  have kk : ∀ x, (compFix scope C.env (newEnv scope L mainGlobals (cellsFrom (L + 1) scope.names (closL (fun n => C.env.cells.lookup n) scope.names [])) C.env.qual none .none (some C.env) builtinsNs)).kindOf x =
      (scope.names.map fun (n, k) => if (k == NameKind.free && C.env.scope.kind == .function && C.env.kindOf n == some .cell) then (n, NameKind.cell) else (n, k)).lookup x := fun x => rfl
  refine ⟨c1, rfl, hC.blt, fun i x hx => ?_, nodupB_of c2, fun i x hx => ?_, fun i x hx => ?_, fun i x hx => ?_⟩
  · rw [kk]; exact ⟨relabel_same (by decide) (chkNames_of c5 hx).1, (chkNames_of c5 hx).2.1⟩
  · rw [kk]
    rw [c3] at hx
    by_cases hi : i < (cvs scope.names).length
    · rw [List.getElem?_append_left hi] at hx
      refine ⟨relabel_same (by decide) (chkNames_of c6 hx).1, (chkNames_of c6 hx).2.1, fun c hc => ?_⟩
      show (cellsFrom (L + 1) scope.names _).lookup x = _
      rw [cells_own (nodupB_of c4) hx]
      dsimp only at hc
      rw [List.getElem?_append_left (by simpa using hi), List.getElem?_map, List.getElem?_range hi] at hc
      exact hc
    · rw [List.getElem?_append_right (Nat.le_of_not_lt hi)] at hx
      obtain ⟨i', a, q1, q2, q3⟩ := hcap.get _ x hx
      obtain ⟨r1, r2, r3⟩ := hC.cv i' x q1
      refine ⟨relabel_free hC.kind r1 (chkNames_of c7 hx).1, r2, fun c hc => ?_⟩
      dsimp only at hc
      rw [List.getElem?_append_right (by simpa using Nat.le_of_not_lt hi)] at hc
      simp only [List.length_map, List.length_range] at hc
      rw [q3] at hc
      cases hc
      show (cellsFrom (L + 1) scope.names _).lookup x = _
      have n1 := List.all_eq_true.mp c13 x (List.mem_of_getElem? hx)
      rw [cells_other (fun z => by rw [List.contains_iff_mem.mpr z] at n1; cases n1)]
      have n2 := List.all_eq_true.mp c11 x (List.mem_of_getElem? hx)
      rw [closL_own (List.contains_iff_mem.mp n2), r3 a q2]
      rfl
  · rw [c8] at hx; simp at hx
  · rw [kk]; exact ⟨relabel_same (by decide) (chkNames_of c9 hx).1, (chkNames_of c9 hx).2.1⟩
theorem clos_comp (hC : EnvOk F C) (c : chkR F' scope cap = true) (hcap : Caps F C cap capa) : closureFor scope C.env = pure (closL (fun n => C.env.cells.lookup n) scope.names []) := by
  simp only [chkR, Bool.and_eq_true, beq_iff_eq, List.isEmpty_iff] at c
  obtain ⟨⟨⟨⟨⟨⟨⟨⟨⟨⟨⟨⟨c1, c2⟩, c3⟩, c4⟩, c5⟩, c6⟩, c7⟩, c8⟩, c9⟩, c10⟩, c11⟩, c12⟩, c13⟩ := c
  refine closureFor_L fun n hn => ?_
  have := List.all_eq_true.mp c10 _ hn
  simp only [bne_self_eq_false, Bool.false_or] at this
  obtain ⟨j, hj⟩ := List.getElem?_of_mem (List.contains_iff_mem.mp this)
  obtain ⟨i', a, q1, q2, q3⟩ := hcap.get _ n hj
  exact ⟨a, (hC.cv i' n q1).2.2 a q2⟩

/-- a comprehension's tests -/
noncomputable abbrev tests (ifs : List Expr) (env : Env) : Sem Bool := forIn ifs true fun c r => if r = true then do let ok ← isTrue c env (eval c env); pure (ForInStep.yield ok) else pure (ForInStep.yield r)
theorem wp_tests0 {w : World} {env : Env} {Q : Bool → Shared → Prop} (h : Q true s) : Wp w A (tests [] env) Q E s := ⟨by unfold tests; rw [List.forIn_nil]; exact wpAny_pure h⟩
theorem wp_tests1 {w : World} {env : Env} {c : Expr} {Q : Bool → Shared → Prop} (h : Wp w A (isTrue c env (eval c env)) Q E s) : Wp w A (tests [c] env) Q E s :=
  ⟨by unfold tests; rw [List.forIn_cons]; exact wpAny_bind (wpAny_bind (h.up fun b s' q => wpAny_pure (by dsimp only; rw [List.forIn_nil]; exact wpAny_pure q)))⟩
theorem cd_comp {R : Result → Shared → Prop} {elt target iter : Expr} {ifs : List Expr} {sc : Scope} {pos : Pos} {it acc : Value} (I : Nat → St → Prop)
    (turn : ∀ n σ s, I n σ → At F C σ s → Wp C.w A (pyNext it) (fun r s₁ => match r with
      | none => R (.ok .next) s₁
      | some v => Wp C.w A (assign target C.env v) (fun _ s₂ => Wp C.w A (tests ifs C.env) (fun ok s₃ => if ok then Wp C.w A (eval elt C.env) (fun x s₄ => Wp C.w A (call (.builtin "list.append") [acc, x]) (fun _ s₅ => ∃ m σ', m < n ∧ I m σ' ∧ At F C σ' s₅) (fun _ _ => False) s₄) (fun _ _ => False) s₃
        else ∃ m σ', m < n ∧ I m σ' ∧ At F C σ' s₃) (fun _ _ => False) s₂) (fun _ _ => False) s₁) (fun _ _ => False) s)
    (n : Nat) (h0 : I n σ) (h : At F C σ s) (ht : ∀ v, letOwnedTupleGo target it v = pure () := by intro _; rfl) : Cd C.w A (.compLoop (.ListComp elt [⟨target, iter, ifs, 0⟩] sc pos) 0 it acc C.env) R s := by
  refine ⟨codeAny_loop rfl (fun n s => ∃ σ, I n σ ∧ At F C σ s) (fun n s hI => ?_) n ⟨σ, h0, h⟩⟩
  obtain ⟨σ, hI, h⟩ := hI
  show wpAny _ _ ((compTurn (.ListComp elt [⟨target, iter, ifs, 0⟩] sc pos) 0 it acc C.env).onRaise (fun x => do noteFrame x C.env; theTreesLotGoes x)) _ _ s
  refine wpAny_noted ?_
  rw [compTurn_list]
  refine wpAny_bind (wpAny_standAt (wpAny_bind (wpAny_mono (turn n σ s hI h).ok (fun r s₁ h₁ => ?_) fun _ _ x => x.elim)))
  cases r with
  | none => exact wpAny_pure h₁
  | some v =>
    refine wpAny_bind (wpAny_of_eq (ht v) ?_)
    refine wpAny_bind (wpAny_mono h₁.ok (fun _ s₂ h₂ => wpAny_bind (wpAny_mono h₂.ok (fun ok s₃ h₃ => ?_) fun _ _ x => x.elim)) fun _ _ x => x.elim)
    cases ok with
    | true =>
      refine wpAny_bind (wpAny_bind (wpAny_mono h₃.ok (fun x s₄ h₄ => wpAny_bind (wpAny_mono h₄.ok (fun _ s₅ h₅ => wpAny_pure (wpAny_pure ⟨rfl, ?_⟩)) fun _ _ x => x.elim)) fun _ _ x => x.elim))
      obtain ⟨m, σ', a, b, c⟩ := h₅; exact ⟨m, a, σ', b, c⟩
    | false =>
      refine wpAny_bind (wpAny_pure (wpAny_pure ⟨rfl, ?_⟩))
      obtain ⟨m, σ', a, b, c⟩ := h₃; exact ⟨m, a, σ', b, c⟩
end
end Mine

end
section
open PySem PySem.W PyProof.Rows PySem.Calls
namespace Mine

noncomputable def ItK.walk : ItK → Bool
  | .range _ _ _ => true
  | .list _ _ => true
  | .str _ _ => true
  | _ => false
theorem am_self {F : FnS} {C : Cx} {σ : St} {s : Shared} {A : Around} {E : Value → Shared → Prop} {Q : Value → Shared → Prop} {it : Addr} {k : ItK} (h : At F C σ s) (hit : σ.H it = some (.it k)) (hk : k.walk = true) (q : Q (.ref it) s) : Wp C.w A (pyIter (.ref it)) Q E s := by
  obtain ⟨o, ho, hi, _⟩ := h.get hit
  cases k with
  | range x l st => cases hi; exact ⟨wpAny_pyIter_rangeiter ho q⟩
  | list l i => exact ⟨wpAny_pyIter_listiter ⟨o, ho, hi.1, hi.2⟩ q⟩
  | str x i => obtain ⟨t, h1, h2⟩ := hi; exact ⟨wpAny_pyIter_striter_ascii ⟨o, ho, h1, h2⟩ q⟩
  | call m => cases hk
  | dead => cases hk

section
variable {F F' : FnS} {C : Cx} {σ : St} {s : Shared} {A : Around} {E : Value → Shared → Prop} {scope : Scope} {cap : List Str} {capa : List Addr} {elt iter target : Expr} {ifs : List Expr} {pos : Pos}
/-- the block of a comprehension, entered -/
noncomputable def CompRun (A : Around) (F F' : FnS) (C : Cx) (e : Expr) (scope : Scope) (capa : List Addr) (it : Value) (s₂ : Shared) (End : Addr → (Addr → Option AO) → List (Option AV) → Prop) : Prop :=
  ∃ σ₂ ita kk, At F C σ₂ s₂ ∧ it = .ref ita ∧ σ₂.H ita = some (.it kk) ∧ kk.walk = true ∧ ∀ D C' s₄, σ₂.H D = none → Entry A F C (σ₂.put D (.list [])) F' C' → C'.ca = (List.range (cvs scope.names).length).map (C'.L + 1 + ·) ++ capa →
    At F' C' ⟨List.replicate F'.nm.length none, hcells (hput σ₂.H D (.list [])) C'.L (cvs scope.names).length⟩ s₄ →
    Cd C'.w A (.compLoop e 0 it (.ref D) C'.env) (fun r s' => match r with | .ok _ => ∃ σ', At F' C' σ' s' ∧ End D σ'.H σ₂.m | .error _ => False) s₄
theorem comp_block {Q : Value → Addr → Shared → Prop} {RR : Value → Addr → Result → Shared → Prop} {it : Value} {End : Addr → (Addr → Option AO) → List (Option AV) → Prop} {s₂ : Shared} (hE : EnvOk F C) (c : chkR F' scope cap = true) (hcap : Caps F C cap capa)
    (hR : CompRun A F F' C (.ListComp elt [⟨target, iter, ifs, 0⟩] scope pos) scope capa it s₂ End)
    (hQ : ∀ D L σ' m s' oL mm, End D σ' m → σ' L = none → s'.heap.get? L = some oL → s'.heap.Ns L mm → At F C ⟨m, hput σ' L (.raw oL)⟩ s' → RR (.ref D) L (.ok .next) s')
    (hok : ∀ D L r s', RR (.ref D) L (.ok .next) s' → RR (.ref D) L (.ok r) s') :
    wpAny (model PP C.w) A (newList []) (fun acc s₃ => wpAny (model PP C.w) A (newFunctionEnv scope C.env.globals (closL (fun n => C.env.cells.lookup n) scope.names []) [] C.env.qual none .none (some C.env)) (fun cenv s₄ =>
      codeAny (model PP C.w) A (.compStart (.ListComp elt [⟨target, iter, ifs, 0⟩] scope pos) 0 it acc { cenv with scope := relabel scope C.env }) (RR acc cenv.locals) s₄) E s₃) E s₂ := by
  obtain ⟨σ₂, ita, kk, h₂, rfl, hit, hkk, run⟩ := hR
  refine (am_newlist (vs := []) h₂ (Nat.zero_le _) fun D s₃ hD h₃ => ?_ : Wp C.w A (newList []) _ E s₂).ok
  rw [hE.glob]
  have ckind : scope.kind = .function := by
    simp only [chkR, Bool.and_eq_true, beq_iff_eq, List.isEmpty_iff] at c
    exact c.1.1.1.1.1.1.1.1.1.1.1.1
  refine (am_enter (A₀ := A) F' (fun L => (List.range (cvs scope.names).length).map (L + 1 + ·) ++ capa) [] (compFix scope C.env) h₃ (fun _ => rfl) (fun e he => ckind) (fun L g outs => envOk_comp hE c hcap) fun C' s₄ hEn he hfa hca h₄ => ?_).ok
  refine wp_bind0 ?_
  have eD : ∀ a, (σ₂.put D (.list (List.map er []))).H a = hput σ₂.H D (.list []) a := fun a => rfl
  have hne : ita ≠ D := fun z => by rw [z, hD] at hit; cases hit
  have hita : hcells (hput σ₂.H D (.list [])) C'.L (cvs scope.names).length ita = some (.it kk) := by
    have e1 : hput σ₂.H D (.list []) ita = some (.it kk) := by rw [hput_ne hne]; exact hit
    unfold hcells
    rw [if_neg fun z => ?_]
    · exact e1
    · have := hEn.fresh ita (Nat.le_of_lt z.1)
      rw [eD, e1] at this; cases this
  have loop := run D C' s₄ hD hEn hca h₄
  have hL : C'.env.locals = (newEnv scope C'.L mainGlobals (cellsFrom (C'.L + 1) scope.names (closL (fun n => C.env.cells.lookup n) scope.names [])) C.env.qual none .none (some C.env) builtinsNs).locals := rfl
  have loop' : codeAny (model PP C.w) A (.compLoop (.ListComp elt [⟨target, iter, ifs, 0⟩] scope pos) 0 (.ref ita) (.ref D) C'.env) (RR (.ref D) C'.env.locals) s₄ := by
    have := loop.ok
    rw [hEn.w] at this
    refine codeAny_mono this fun r s' z => ?_
    cases r with
    | error _ => exact z.elim
    | ok f =>
      obtain ⟨σ', h', hend⟩ := z
      obtain ⟨oL, m, g1, g2, g3⟩ := hEn.backL σ' s' h'
      refine hok _ _ _ _ (hQ D C'.L σ'.H σ₂.m s' oL m hend ?_ g1 g2 g3)
      cases z : σ'.H C'.L with
      | none => rfl
      | some ao => obtain ⟨_, _, _, n, _⟩ := h'.get z; exact absurd rfl n
  have self := (am_self (A := A) (E := notedBy (model PP C.w) A C'.env fun x s' => RR (.ref D) C'.env.locals (.error x) s') (Q := fun it' s' => codeAny (model PP C.w) A (.compLoop (.ListComp elt [⟨target, iter, ifs, 0⟩] scope pos) 0 it' (.ref D) C'.env) (RR (.ref D) C'.env.locals) s') h₄ hita hkk loop').ok
  rw [hEn.w] at self
  rw [he] at loop' self
  rw [← hL, he]
  exact codeAny_compStart_list loop' self
theorem am_lcomp {Q : Value → Shared → Prop} (cap : List Str) (capa : List Addr) (hE : EnvOk F C) (c : chkR F' scope cap = true) (hcap : Caps F C cap capa)
    (k : Wp C.w A (eval iter C.env) (fun x s₁ => Wp C.w A (pyIter x) (fun it s₂ => CompRun A F F' C (.ListComp elt [⟨target, iter, ifs, 0⟩] scope pos) scope capa it s₂ (fun D H m => ∀ s', At F C ⟨m, H⟩ s' → Q (.ref D) s')) E s₁) E s)
    (hs : ∀ x, foldedSetIterable iter C.env x = pure x := by intro _; rfl) : Wp C.w A (eval (.ListComp elt [⟨target, iter, ifs, 0⟩] scope pos) C.env) Q E s := by
  refine ⟨?_⟩
  have c' := c
  simp only [chkR, Bool.and_eq_true, beq_iff_eq, List.isEmpty_iff] at c'
  obtain ⟨⟨⟨⟨⟨⟨⟨⟨⟨⟨⟨⟨c1, c2⟩, c3⟩, c4⟩, c5⟩, c6⟩, c7⟩, c8⟩, c9⟩, c10⟩, c11⟩, c12⟩, c13⟩ := c'
  rw [eval_ListComp]
  refine wpAny_comprehension_free (use := none) rfl hs (clos_comp hE c hcap) c1 (fun x hx hl => ?_) (k.up fun x s₁ k₁ => k₁.up fun it s₂ k₂ => ?_)
  · have := List.all_eq_true.mp c12 x hx
    rw [hl] at this
    simpa using this
  · refine comp_block (Q := fun _ _ _ => True) hE c hcap k₂ (fun D L σ' m s' oL mm hend hL g1 g2 g3 => ?_) (fun D L r s' z => z)
    refine ⟨mm, g2, fun h' hs' => hend _ ?_⟩
    have := g3.lose (s' := { s' with heap := h' }) (a := L) (ao := .raw oL) (hput_self _ _ _) rfl rfl (fun b o hb e => hs'.extBut b o hb e)
    refine this.less (fun _ _ x => x) fun a ao ha => ?_
    show hdel _ _ _ = _
    unfold hdel
    have : a ≠ L := fun z => by rw [z] at ha; rw [show σ' L = some ao from ha] at hL; cases hL
    rw [if_neg this]
    show hput σ' L _ a = _
    rw [hput_ne this]; exact ha
theorem am_lcompA (i : Nat) {y : Str} {py spos : Pos} {Q : Flow → Shared → Prop} (cap : List Str) (capa : List Addr) (hE : EnvOk F C) (c : chkR F' scope cap = true) (hcap : Caps F C cap capa) (hy : F.nm[i]? = some y)
    (hsw : swapsWith (.ListComp elt [⟨target, iter, ifs, 0⟩] scope pos) (some (.Name y py)) spos.line C.env = pure true)
    (k : Wp C.w A (eval iter C.env) (fun x s₁ => Wp C.w A (pyIter x) (fun it s₂ => CompRun A F F' C (.ListComp elt [⟨target, iter, ifs, 0⟩] scope pos) scope capa it s₂ (fun D H m => ∀ s', At F C ⟨m.set i (some (.ref D)), H⟩ s' → Q .next s')) E s₁) E s)
    (hs : ∀ x, foldedSetIterable iter C.env x = pure x := by intro _; rfl) : Wp C.w A (exec (.Assign [.Name y py] (.ListComp elt [⟨target, iter, ifs, 0⟩] scope pos) spos) C.env) Q E s := by
  refine ⟨?_⟩
  have c' := c
  simp only [chkR, Bool.and_eq_true, beq_iff_eq, List.isEmpty_iff] at c'
  obtain ⟨⟨⟨⟨⟨⟨⟨⟨⟨⟨⟨⟨c1, c2⟩, c3⟩, c4⟩, c5⟩, c6⟩, c7⟩, c8⟩, c9⟩, c10⟩, c11⟩, c12⟩, c13⟩ := c'
  rw [exec_Assign_Name_used _ _ _ _ hsw]
  refine wpAny_bind (wpAny_standAt (wpAny_bind ?_))
  show wpAny _ A (do let _ ← comprehension (.ListComp elt [⟨target, iter, ifs, 0⟩] scope pos) scope C.env _ (newList []) false (eval iter C.env) (some (assign (.Name y py) C.env))) _ _ s
  refine wpAny_bind (wpAny_mono (wpAny_comprehension_free (use := some (assign (.Name y py) C.env)) (Q := fun _ s' => Q .next s') rfl hs (clos_comp hE c hcap) c1 (fun x hx hl => ?_)
    (k.up fun x s₁ k₁ => k₁.up fun it s₂ k₂ => ?_)) (fun _ s' hq => wpAny_pure (wpAny_pure hq)) fun _ _ e => e)
  · have := List.all_eq_true.mp c12 x hx
    rw [hl] at this
    simpa using this
  · refine comp_block (Q := fun _ _ _ => True) hE c hcap k₂ (fun D L σ' m s' oL mm hend hL g1 g2 g3 => ?_) (fun D L r s' z => z)
    obtain ⟨oL', es, ep, e1, e2, e3⟩ := g2
    rw [g1] at e1; cases e1
    show wpAny _ A (assign (.Name y py) C.env (.ref D)) _ _ _
    refine wpAny_assign_Name (am_store i g3 hy fun s'' g4 => ?_ : Wp C.w A _ _ _ _).ok
    obtain ⟨oL'', e1', hi, _⟩ := g4.get (a := L) (ao := .raw oL) (hput_self _ _ _)
    cases hi
    refine ⟨mm, ⟨oL, es, ep, e1', e2, e3⟩, fun h' hs' => hend _ ?_⟩
    have := g4.lose (s' := { s'' with heap := h' }) (a := L) (ao := .raw oL) (hput_self _ _ _) rfl rfl (fun b o hb e => hs'.extBut b o hb e)
    refine this.less (fun _ _ x => x) fun a ao ha => ?_
    show hdel _ _ _ = _
    unfold hdel
    have : a ≠ L := fun z => by rw [z] at ha; rw [show σ' L = some ao from ha] at hL; cases hL
    rw [if_neg this]
    show hput σ' L _ a = _
    rw [hput_ne this]; exact ha
end
end Mine

end
section
open PySem PySem.W PyProof.Rows PySem.Calls PyProof.Rows.LCg
namespace Mine

section
variable {F : FnS} {C : Cx} {σ : St} {s : Shared} {A : Around} {fs : List Env} {e : Addr} {cls : Value} {vs : List Value}
/-- a frame's slots may have changed -/
theorem At.slots {h' : Heap} (h : At F C σ s) (up : s.heap.UpToSlots h') (hg : ∀ b o, C.g.get? b = some o → h'.get? b = some o) (hH : ∀ a ao o, σ.H a = some ao → s.heap.get? a = some o → h'.get? a = some o) : At F C σ { s with heap := h' } := by
  obtain ⟨m₀, news, f, N, ND, e, q, x⟩ := h.led
  have mem : ∀ a o o', (a, o) ∈ news → h'.get? a = some o' → (a, o') ∈ news.filterMap (fun p => (h'.get? p.1).map (fun o => (p.1, o))) := fun a o o' hm he => by
    rw [List.mem_filterMap]; exact ⟨(a, o), hm, by dsimp only; rw [he]; rfl⟩
  refine ⟨h.gens, h.os, h.gnd, h.env, m₀, news.filterMap (fun p => (h'.get? p.1).map (fun o => (p.1, o))), ⟨up.ns f.ns, hg, f.above⟩, fun p hp => ?_, ?_, e, fun a ao ha => ?_, fun p hp => ?_, x.2⟩
  · rw [List.mem_filterMap] at hp
    obtain ⟨p₀, hp₀, z⟩ := hp
    obtain ⟨o, ho, rfl⟩ := Option.map_eq_some_iff.mp z
    exact ⟨ho, (N p₀ hp₀).2⟩
  · have sub : ∀ l : List (Addr × Obj), ((l.filterMap (fun p => (h'.get? p.1).map (fun o => (p.1, o)))).map (·.1)).Sublist (l.map (·.1)) := by
      intro l
      induction l with
      | nil => exact .slnil
      | cons p l ih =>
        rw [List.filterMap_cons]
        cases h'.get? p.1 with
        | none => exact ih.cons _
        | some o => exact ih.cons₂ _
    exact List.Nodup.sublist (sub news) ND
  · obtain ⟨o, hm, hi⟩ := q a ao ha
    exact ⟨o, mem a o o hm (hH a ao o ha (N _ hm).1), hi⟩
  · obtain ⟨o, hm, hi⟩ := x.1 p hp
    obtain ⟨es, ep, hd, r⟩ := hi
    obtain ⟨sl, hs⟩ := up _ _ (N _ hm).1 fun vs q => by rw [hd] at q; cases q
    exact ⟨_, mem _ _ _ hm hs, es, ep, hd, r⟩
/-- an exception on its way -/
noncomputable def Fly (g : Heap) (H : Addr → Option AO) (fs : List Env) (e : Addr) (cls : Value) (vs : List Value) (s : Shared) : Prop :=
  ∃ B t, Heap.FlyingW B fs e cls (.ref t) s.heap ∧ s.heap.TupAt t vs ∧ B.get? t = none ∧ (∀ b o, g.get? b = some o → B.get? b = some o) ∧ ∀ a ao o, H a = some ao → s.heap.get? a = some o → B.get? a = some o
theorem fun_frames (h : At F C σ s) (l : List Env) (hl : ∀ e ∈ l, e.scope.kind = .function ∧ ∃ L, e.frame = some L ∧ (L = C.L ∨ ∃ p ∈ C.outs, p.1 = L)) : ∀ (base : Heap), (∀ e ∈ l, ∀ L, e.frame = some L → base.get? L = none) → s.heap.FunFrames base l := by
  induction l with
  | nil => intro _ _; trivial
  | cons env r ih =>
    intro base hb
    obtain ⟨k1, L, k2, k3⟩ := hl env (.head _)
    refine ⟨by rw [k1]; decide, ⟨L, ?_⟩, ih (fun e he => hl e (.tail _ he)) base fun e he => hb e (.tail _ he)⟩
    obtain ⟨m₀, news, f, N, ND, e, q, x⟩ := h.led
    have : ∃ o m, s.heap.get? L = some o ∧ NsObj o m := by
      rcases k3 with rfl | ⟨p, hp, rfl⟩
      · obtain ⟨o, h1, h2⟩ := ns_obj f.ns; exact ⟨o, _, h1, h2⟩
      · obtain ⟨o, hm, hi⟩ := x.1 p hp; exact ⟨o, _, (N _ hm).1, hi⟩
    obtain ⟨o, m, h1, es, ep, hd, _⟩ := this
    exact ⟨o, k2, hb env (.head _) L k2, h1, fun vs q => by rw [hd] at q; cases q⟩
theorem frames_not (h : At F C σ s) {fs : List Env} (hl : ∀ e ∈ fs, e.scope.kind = .function ∧ ∃ L, e.frame = some L ∧ (L = C.L ∨ ∃ p ∈ C.outs, p.1 = L)) {b : Addr} (hb : b ∈ fs.filterMap (·.frame)) : C.g.get? b = none ∧ ∀ ao, σ.H b ≠ some ao := by
  obtain ⟨env, he, hf⟩ := List.mem_filterMap.mp hb
  obtain ⟨_, L, k2, k3⟩ := hl env he
  rw [hf] at k2; cases k2
  obtain ⟨m₀, news, f, N, ND, e, q, x⟩ := h.led
  rcases k3 with rfl | ⟨p, hp, rfl⟩
  · refine ⟨?_, fun ao ha => ?_⟩
    · cases z : C.g.get? C.L with
      | none => rfl
      | some o => exact absurd (Heap.lt_size z) (Nat.not_lt.mpr f.above)
    · obtain ⟨o, hm, _⟩ := q _ ao ha; exact (N _ hm).2.1 rfl
  · obtain ⟨o, hm, _⟩ := x.1 p hp
    exact ⟨(N _ hm).2.2, fun ao ha => x.2 _ ao ha p hp rfl⟩
theorem leaves_made {M : Model} {E : Value → Shared → Prop} {Q : Unit → Shared → Prop} {h' : Heap} (h : At F C σ s) (stk : Stk A C (C.env :: fs)) (hf : C.env.frame = some C.L) (hx : Heap.MadeExcOf s.heap h' e cls vs)
    (k : ∀ s₃, At F C σ s₃ → Fly C.g σ.H fs e cls vs s₃ → Q () s₃) : wpAny M A (leaving C.env (.ref e)) Q E { s with heap := h' } := by
  have hb : ∀ e ∈ (C.env :: fs), ∀ L, e.frame = some L → (hideAll s.heap ((C.env :: fs).filterMap (·.frame))).get? L = none := fun e he L hL => hideAll_none _ (List.mem_filterMap.mpr ⟨e, he, hL⟩)
  have inB : ∀ b o, s.heap.get? b = some o → b ∉ (C.env :: fs).filterMap (·.frame) → (hideAll s.heap ((C.env :: fs).filterMap (·.frame))).get? b = some o := fun b o e n => hideAll_get _ e n
  have gB : ∀ b o, C.g.get? b = some o → (hideAll s.heap ((C.env :: fs).filterMap (·.frame))).get? b = some o := fun b o e => inB b o (h.keep b o e) fun n => by rw [(frames_not h stk.env n).1] at e; cases e
  have HB : ∀ a ao o, σ.H a = some ao → s.heap.get? a = some o → (hideAll s.heap ((C.env :: fs).filterMap (·.frame))).get? a = some o := fun a ao o ha e => inB a o e fun n => (frames_not h stk.env n).2 ao ha
  refine wpAny_leaves_madeW stk.fr hf (fun b o q => of_hideAll _ q) (fun_frames h _ stk.env _ hb) hx fun h₃ t x1 x2 x3 x4 => ?_
  have up : s.heap.UpToSlots h₃ := (Heap.UpToSlots.of_keeps hx.keeps).trans x4
  refine k _ (h.slots up (fun b o e => x1.1 b o (gB b o e)) fun a ao o ha e => x1.1 a o (HB a ao o ha e)) ⟨_, t, x1, x2, x3, gB, fun a ao o ha e => ?_⟩
  obtain ⟨o₀, ho₀, _⟩ := h.get ha
  have h1 := HB a ao o₀ ha ho₀
  have := x1.1 a o₀ h1
  rw [show h₃.get? a = some o from e] at this
  cases this
  exact h1
theorem leaves_on {M : Model} {E : Value → Shared → Prop} {Q : Unit → Shared → Prop} (h : At F C σ s) (stk : Stk A C (C.env :: fs)) (hf : C.env.frame = some C.L) (hx : Fly C.g σ.H (C.env :: fs) e cls vs s)
    (k : ∀ s₃, At F C σ s₃ → Fly C.g σ.H fs e cls vs s₃ → Q () s₃) : wpAny M A (leaving C.env (.ref e)) Q E s := by
  obtain ⟨B, t, x1, x2, x3, gB, HB⟩ := hx
  refine wpAny_leaves_onW stk.fr hf x1 fun h₃ y1 y2 => ?_
  refine k _ (h.slots y2 (fun b o e => y1.1 b o (gB b o e)) fun a ao o ha e => y1.1 a o (HB a ao o ha e)) ⟨B, t, y1, x2.of_slots y2, x3, gB, fun a ao o ha e => ?_⟩
  obtain ⟨o₀, ho₀, _⟩ := h.get ha
  have h1 := HB a ao o₀ ha ho₀
  have := y1.1 a o₀ h1
  rw [show h₃.get? a = some o from e] at this
  cases this
  exact h1
end

noncomputable abbrev bmExc : List Value := [.type "Exception", .type "BaseException", .type "object"]
theorem am_raise {F : FnS} {C : Cx} {σ : St} {s : Shared} {A : Around} {E : Value → Shared → Prop} (i : Nat) {x : Str} {Cl : Addr} {np cpos pos : Pos} {e₀ : Expr} {Q : Flow → Shared → Prop} (h : At F C σ s) (hh : A.handled = none) (hx : F.gl[i]? = some x) (hv : nsIn (KK C.w) mainGlobals x = some (some (.ref Cl)))
    (hq : excIn (KK C.w) Cl bmExc "Exception.__new__" = true)
    (k : Wp C.w A (eval e₀ C.env) (fun v s₁ => ∃ σ₁, At F C σ₁ s₁ ∧ ∀ h' e, Heap.MadeExcOf s₁.heap h' e (.ref Cl) [v] → E (.ref e) { s₁ with heap := h' }) E s)
    (he : starEach [e₀] C.env = [(false, eval e₀ C.env)] := by rfl) :
    Wp C.w A (exec (.Raise (some (.Call (.Name x np) [e₀] [] cpos)) none pos) C.env) Q E s := by
  refine ⟨?_⟩
  obtain ⟨p, l, me, mg, mb, T, _⟩ := h.gnd.top
  obtain ⟨bm, N, nm, qn, bs, hdct, sn, sub, ab, col, dd, k0, k1, k2, k3, k5, mN, hC, hN, hni, TL⟩ := (own_of_in h.gnd.K (topRead_of T) hv hq).obj
  refine wpAny_Raise_call_subT (C := Cl) (nm := nm) (q := qn) (N := N) (bs := bs) (bm := bm) (hdct := hdct) (sn := sn) (sub := sub) (ab := ab) (col := col) (dd := dd) (k0 := k0) (k1 := k1) (k2 := k2) (k3 := k3) (k5 := k5)
    PySem.F.excBase_Exception (mN := mN) (TL.hasType PySem.F.excBase_Exception.hasBase) hh (by rw [he]; rfl) hni ((am_glob i h hx hv ⟨rfl, ?_⟩ : Wp C.w A _ _ E s).ok)
  rw [he]
  refine Calls.evalArgs_plain ?_
  refine Calls.spliced_cons (k.up fun v s₁ ⟨σ₁, h₁, k₁⟩ => ?_)
  exact Calls.spliced_nil ⟨rfl, by size_fits, h₁.keep _ _ hC, hN.keeps h₁.keep, TL.keeps h₁.keep, k₁⟩
end Mine

end
section
open PySem PySem.W PyProof.Rows PySem.Calls PyProof.Rows.LCg
namespace Mine

theorem find_erase {α : Type} (p : α → Bool) : ∀ (l : List α) (i : Nat) (x : α), l[i]? = some x → p x = false → (l.eraseIdx i).find? p = l.find? p
  | [], i, x, h, _ => by simp at h
  | y :: l, 0, x, h, hp => by
    simp at h; subst h
    rw [List.eraseIdx_cons_zero, List.find?_cons, hp]
  | y :: l, i + 1, x, h, hp => by
    rw [List.getElem?_cons_succ] at h
    rw [List.eraseIdx_cons_succ, List.find?_cons, List.find?_cons, find_erase p l i x h hp]
theorem am_nsDel {M : Model} {A : Around} {E : Value → Shared → Prop} {s : Shared} {a : Addr} {m : Str → Option Value} {name : Str} {Q : Bool → Shared → Prop} (hn : s.heap.Ns a m) (hs : (m name).isSome = true)
    (hQ : ∀ h' m', h'.Ns a m' → (∀ y, y ≠ name → m' y = m y) → Heap.SameBut a s.heap h' → Q true { s with heap := h' }) : wpAny M A (nsDel a name) Q E s := by
  obtain ⟨o, es, ep, ho, hd, hk, hm⟩ := id hn
  have hany : es.any (·.key.isStr name) = true := by
    rw [← hm name] at hs
    simp only [nsFind, findBy, Option.isSome_map] at hs
    obtain ⟨e, he⟩ := Option.isSome_iff_exists.mp hs
    rw [Array.any_eq_true]
    obtain ⟨i, hi, rfl⟩ := Array.mem_iff_getElem.mp (Array.mem_of_find?_eq_some he)
    have := Array.find?_some (p := fun e : DictEntry => e.key.isStr name) he
    exact ⟨i, hi, this⟩
  unfold nsDel
  refine wpAny_bind (wpAny_loadPart ho ?_)
  rw [nsHas_eq]
  unfold nsHasByArray
  rw [hd]
  dsimp only
  rw [if_pos hany]
  refine wpAny_bind (wpAny_pure ?_)
  rw [if_pos rfl]
  refine wpAny_bind (wpAny_updatePart ho (wpAny_pure ?_))
  have key : ∃ m', (s.heap.update a (Obj.dropName name)).Ns a m' ∧ ∀ y, y ≠ name → m' y = m y := by
    obtain ⟨cl, d, dt, sl⟩ := o
    subst hd
    cases hi : es.findIdx? (·.key.isStr name) with
    | none =>
      rw [Array.findIdx?_eq_none_iff] at hi
      rw [Array.any_eq_true] at hany
      obtain ⟨i, h1, h2⟩ := hany
      rw [hi _ (Array.getElem_mem h1)] at h2; cases h2
    | some i =>
      refine ⟨_, ⟨_, _, ep + 1, Heap.get?_update_self _ ho (by simp only [Obj.dropName_eq, Obj.dropNameByArray, hi]; rfl), (by simp only [Obj.dropName_eq, Obj.dropNameByArray, hi] <;> rfl), hk.erase i, fun _ => rfl⟩, fun y hy => ?_⟩
      rw [← hm y]
      unfold nsFind findBy
      rw [Array.findIdx?_eq_some_iff_getElem] at hi
      obtain ⟨hlt, hp, _⟩ := hi
      congr 1
      rw [← Array.find?_toList, ← Array.find?_toList]
      unfold Array.eraseIdxIfInBounds
      rw [dif_pos hlt, Array.toList_eraseIdx]
      refine find_erase _ _ i es[i] (by simp [hlt]) ?_
      obtain ⟨n, t, hkey⟩ := hk es[i] (Array.getElem_mem hlt)
      rw [hkey] at hp ⊢
      have : n = name := by simpa [Value.isStr] using hp
      subst this
      simpa [Value.isStr] using fun z => hy z.symm
  obtain ⟨m', hm', ho'⟩ := key
  exact hQ _ m' hm' ho' (Heap.SameBut.update ..)

section
variable {F : FnS} {C : Cx} {σ : St} {s : Shared} {A : Around} {E : Value → Shared → Prop}
theorem am_namegoes (i : Nat) {n : Str} {pos : Pos} {Q : Unit → Shared → Prop} (h : At F C σ s) (hx : F.nm[i]? = some n) (k : ∀ s', At F C ⟨σ.m.set i none, σ.H⟩ s' → Q () s') : wpAny (model PP C.w) A (do bindName C.env n .none; unbindBehindTheSuite C.env n pos) Q E s := by
  refine wpAny_bind (wpAny_bindName ?_)
  obtain ⟨m₀, news, f, N, ND, e, q, x⟩ := h.led
  have hl := (h.env.nm i n hx).1
  have hp : (C.env.scope.kind == .class || (C.env.scope.kind == .module && C.env.locals != C.env.globals)) = false := by rw [h.env.kind]; rfl
  refine wpAny_storeName_local hl f.ns (fun h₁ hn₁ hs₁ => ?_) hp
  unfold unbindBehindTheSuite
  refine wpAny_onRaise ?_
  unfold unbindName
  refine wpAny_bind (wpAny_point (wpAny_bind ?_))
  unfold deleteName
  simp only [hl, hp]
  rw [if_neg (by decide)]
  refine wpAny_bind (am_nsDel (s := { s with heap := h₁, toks := s.toks + 1 }) hn₁ (by simp) fun h₂ m₂ hn₂ hy hs₂ => ?_)
  simp only [Bool.not_true, Bool.false_eq_true, if_false]
  refine wpAny_pure (wpAny_point (k _ ⟨h.gens, h.os, h.gnd, h.env, m₂, news, (f.set hn₁ hs₁).set hn₂ hs₂, (N.set hs₁).set hs₂, ND, fun j y av hjy hv => ?_, q, x⟩))
  dsimp only at hv
  rw [List.getElem?_set] at hv
  split at hv
  · split at hv <;> cases hv
  · rename_i hij
    obtain ⟨v', hv', he⟩ := e j y av hjy hv
    have : y ≠ n := fun z => by
      subst z
      have hi : i < F.nm.length := (List.getElem?_eq_some_iff.mp hx).1
      exact hij ((List.getElem?_inj hi h.env.nmN).mp (hx.trans hjy.symm))
    exact ⟨v', by rw [hy y this]; simp [this, hv'], he⟩
/-- an object that lay about is known from now on -/
theorem At.add {D : Addr} {o : Obj} {ao : AO} (h : At F C σ s) (hD : s.heap.get? D = some o) (hi : ao.Is o) (hH : σ.H D = none) (hg : C.g.get? D = none) (hd : ∀ es n, o.data ≠ .dict es n) : At F C (σ.put D ao) s := by
  obtain ⟨m₀, news, f, N, ND, e, q, x⟩ := h.led
  have nL : D ≠ C.L := fun z => by
    obtain ⟨oL, h1, es, ep, h2, _⟩ := ns_obj f.ns
    rw [← z, hD] at h1; cases h1; exact hd _ _ h2
  have nO : ∀ p ∈ C.outs, p.1 ≠ D := fun p hp z => by
    obtain ⟨o', hm, es, ep, h2, _⟩ := x.1 p hp
    have := (N _ hm).1
    rw [z, hD] at this; cases this; exact hd _ _ h2
  refine ⟨h.gens, h.os, h.gnd, h.env, m₀, (D, o) :: news.filter (fun p => p.1 != D), f, fun p hp => ?_, ?_, e, fun a ao' ha => ?_, fun p hp => ?_, fun a ao' ha p hp => ?_⟩
  · rcases List.mem_cons.mp hp with rfl | hp
    · exact ⟨hD, nL, hg⟩
    · exact N p (List.mem_filter.mp hp).1
  · rw [List.map_cons, List.nodup_cons]
    refine ⟨fun hm => ?_, List.Nodup.sublist (List.Sublist.map _ (List.filter_sublist)) ND⟩
    obtain ⟨p, hp, z⟩ := List.mem_map.mp hm
    have := (List.mem_filter.mp hp).2
    rw [z] at this; simp at this
  · unfold St.put hput at ha
    dsimp only at ha
    split at ha
    · rename_i z; cases ha; subst z; exact ⟨o, .head _, hi⟩
    · rename_i z
      obtain ⟨o', hm, hi'⟩ := q a ao' ha
      exact ⟨o', .tail _ (List.mem_filter.mpr ⟨hm, by simpa using z⟩), hi'⟩
  · obtain ⟨o', hm, hi'⟩ := x.1 p hp
    exact ⟨o', .tail _ (List.mem_filter.mpr ⟨hm, by simpa using nO p hp⟩), hi'⟩
  · unfold St.put hput at ha
    dsimp only at ha
    split at ha
    · rename_i z; subst z; exact nO p hp
    · exact x.2 a ao' ha p hp
theorem am_try (i j : Nat) {fs : List Env} {x n : Str} {Cl : Addr} {np hpos pos : Pos} {body suite : List Stmt} {b₀ : Stmt} {Q : Flow → Shared → Prop} (hG : Gnd C.w C.g) (hxn : F.gl[j]? = some x) (hn : F.nm[i]? = some n) (hv : nsIn (KK C.w) mainGlobals x = some (some (.ref Cl)))
    (hq : excIn (KK C.w) Cl bmExc "Exception.__new__" = true) (stk : Stk A C (C.env :: fs)) (hf : C.env.frame = some C.L)
    (k : Wp C.w A (execs body C.env) (fun f s₁ => Q f s₁) (fun ev s₁ => ∃ e σ₁ vs, ev = .ref e ∧ At F C σ₁ s₁ ∧ Fly C.g σ₁.H (C.env :: fs) e (.ref Cl) vs s₁ ∧
      ∀ t s₂, σ₁.H e = none → σ₁.H t = none → e ≠ t → At F C ⟨σ₁.m.set i (some (.ref e)), hput (hput σ₁.H e (.exc Cl t)) t (.args (vs.map er))⟩ s₂ →
        Wp C.w (A.mark (some (.ref e))) (execs (b₀ :: suite) C.env) (fun f s₃ => ∃ σ₃, At F C σ₃ s₃ ∧ ∀ s₄, At F C ⟨σ₃.m.set i none, σ₃.H⟩ s₄ → Q f s₄) (fun _ _ => False) s₂) s) :
    Wp C.w A (exec (.Try body [.ExceptHandler (some (.Name x np)) (some n) (b₀ :: suite) hpos] [] [] pos) C.env) Q E s := by
  refine ⟨wpAny_Try_except (wpAny_mono k.ok (fun f s₁ z => ?_) fun ev s₁ z => ?_)⟩
  · cases f <;> first | exact wpAny_execs_nil z | exact z
  · obtain ⟨e, σ₁, vs, rfl, h₁, ⟨B, t, x1, x2, x3, gB, HB⟩, run⟩ := z
    refine wpAny_looks_onW stk.fr hf x1 fun h₄ held₄ up₄ => ?_
    refine wpAny_landsW held₄ fun h₅ fly₅ up₅ => ?_
    have h5 : At F C σ₁ { s₁ with heap := h₅ } := h₁.slots (up₄.trans up₅) (fun b o e => fly₅.1 b o (gB b o e)) fun a ao o ha e => fly₅.1 a o (HB a ao o ha e)
    obtain ⟨p, l, me, mg, mb, T, _⟩ := hG.top
    obtain ⟨bm, N, nm, qn, bs, hdct, sn, sub, ab, col, dd, k0, k1, k2, k3, k5, mN, hC, hN, hni, TL⟩ := ((own_of_in hG.K (topRead_of T) hv hq).keeps h5.keep).obj
    obtain ⟨ob, hob, hobc⟩ := fly₅.there
    refine wpAny_handleBy_cons (codeAny_handlers_test ((am_glob j h5 hxn hv ?_ : Wp C.w _ _ _ _ _).ok)) (by intro q; cases q)
    refine wpAny_excMatches_sub_self hC hob hobc (TL.hasType PySem.F.excBase_Exception.hasBase) (codeAny_handlers_suite_as ?_)
    refine lands_againW fly₅ fun h₆ fly₆ up₆ => ?_
    have h6 : At F C σ₁ { s₁ with heap := h₆ } := h₁.slots ((up₄.trans up₅).trans up₆) (fun b o e => fly₆.1 b o (gB b o e)) fun a ao o ha e => fly₆.1 a o (HB a ao o ha e)
    obtain ⟨oe, ws, hoe, hoec, hoed, hoe0⟩ := fly₆.first
    obtain ⟨ot, nt, hot, hotc, hotd⟩ := x2.of_slots ((up₄.trans up₅).trans up₆)
    have gn : ∀ b, B.get? b = none → C.g.get? b = none := fun b hb => by
      cases z : C.g.get? b with
      | none => rfl
      | some o => rw [gB b o z] at hb; cases hb
    have Hn : ∀ b, B.get? b = none → σ₁.H b = none := fun b hb => by
      cases z : σ₁.H b with
      | none => rfl
      | some ao => obtain ⟨o, ho, _⟩ := h₁.get z; rw [HB b ao o z ho] at hb; cases hb
    have ne : e ≠ t := fun z => by
      rw [z] at hoe
      have := hoe.symm.trans hot
      cases this
      rw [hoed] at hotd; cases hotd
    have g1 := h6.add (ao := .exc Cl t) hoe ⟨hoec, ws, hoed, hoe0⟩ (Hn e fly₆.2.1) (gn e fly₆.2.1) fun es n q => by rw [hoed] at q; cases q
    have g2 := g1.add (D := t) (ao := .args (vs.map er)) hot ⟨hotc, vs, nt, hotd, rfl⟩ (by show hput _ _ _ _ = _; rw [hput_ne ne.symm]; exact Hn t x3) (gn t x3) fun es n q => by rw [hotd] at q; cases q
    refine (am_store i g2 hn fun s₂ g3 => ?_ : Wp C.w _ _ _ _ _).ok
    refine wpAny_mono (run t s₂ (Hn e fly₆.2.1) (Hn t x3) ne g3).ok (fun f s₃ z => ?_) fun _ _ z => z.elim
    obtain ⟨σ₃, g4, kk⟩ := z
    exact am_namegoes i g4 hn kk
end

section strexc
variable {F : FnS} {C : Cx} {σ : St} {s : Shared} {A : Around} {E : Value → Shared → Prop}
theorem bstr_kind : builtinKind "BaseException.__str__" = some .slot := by decide +kernel
theorem bstr_split : splitId "BaseException.__str__" = some ("BaseException", "__str__") := by decide +kernel
theorem bstr_bind (self : Value) : bindSpecial (.builtin "BaseException.__str__") self = pure (.builtin "BaseException.__str__", [self]) := PySem.F.excStr_Exception.str.bind self
/-- str of an exception of a class of the text's -/
theorem am_strexc {Cl e t : Addr} {x : List Nat} {n : Nat} {Q : Value → Shared → Prop} (h : At F C σ s) (he : σ.H e = some (.exc Cl t)) (ht : σ.H t = some (.args [.str x])) (hs : findIn (KK C.w) (.ref Cl) "__str__" = some (some (.builtin "BaseException.__str__")))
    (hm : mroIn (KK C.w) Cl (.type "BaseException") = some true) (hu : A.units + 8 * (n + 1) < 9900) (k : ∀ v, er v = .str x → Q v s) : Wp C.w A (call (.type "str") [.ref e]) Q E s := by
  obtain ⟨oe, hoe, ⟨hc, ws, hd, h0⟩, _⟩ := h.get he
  obtain ⟨ot, hot, ⟨htc, vs, nt, htd, hvs⟩, _⟩ := h.get ht
  have : ∃ u, vs = [.str ⟨x.toArray⟩ u] := by
    cases vs with
    | nil => simp at hvs
    | cons v r =>
      simp only [List.map_cons, List.cons.injEq] at hvs
      obtain ⟨u, rfl⟩ := er_str hvs.1
      cases r with
      | nil => exact ⟨u, rfl⟩
      | cons _ _ => simp at hvs
  obtain ⟨u, rfl⟩ := this
  have X := h.K
  refine ⟨callType_new PySem.F.called_str (by decide) (PySem.F.typeCall_str_1 _) (PySem.F.newCall_str_1 _) (fun obj => PySem.F.args_object_init_2 obj _) PySem.F.entry_str_new
    (meets_str_new (S := fun A' R s' => A'.units + 1 < cLine ∧ (KK C.w).In s'.heap ∧ s'.heap.get? e = some oe ∧ s'.heap.get? t = some ot ∧ R (.ok (.ret (.str ⟨x.toArray⟩ u))) s') fun prog w A' R s' hq => ?_)
    ⟨(show A.units + 1 + 1 < 9900 by omega), X, hoe, hot, typeIs_str _ _ _, k _ rfl⟩⟩
  obtain ⟨q1, q2, q3, q4, q5⟩ := hq
  have entry : ∀ (A₁ : Around) (Q₁ : Fin → Shared → Prop) (E₁ : Value → Shared → Prop), Q₁ (.done (.ret (.str ⟨x.toArray⟩ u))) s' → wpAny (model prog w) A₁ (Builtin.«BaseException.__str__» ⟨[.ref e], []⟩) Q₁ E₁ s' := fun A₁ Q₁ E₁ z => by
    have args : ∀ (A₁ : Around) (Q₁ : Value × List Value → Shared → Prop) (E₁ : Value → Shared → Prop), Q₁ (.ref t, [.str ⟨x.toArray⟩ u]) s' → wpAny (model prog w) A₁ (PySem.Builtin.BaseException.bexcArgs (.ref e)) Q₁ E₁ s' := fun A₁ Q₁ E₁ z => by
      unfold PySem.Builtin.BaseException.bexcArgs
      exact wpAny_bind (wpAny_field q3 hd h0 (wpAny_bind (wpAny_seqItems q4 htd (wpAny_pure z))))
    unfold Builtin.«BaseException.__str__»
    refine wpAny_bind (wpAny_pure (wpAny_bind (args _ _ _ (wpAny_bind (wpAny_rule (wpAny_bind ?_))))))
    exact wpAny_pure (wpAny_pure z)
  have LT : Looks (model prog w) s'.heap (typeOf (.ref e)) (.ref Cl) := hc ▸ (Looks.ld q3).andThen .now
  have LI : Looks (model prog w) s'.heap (isInstance (.ref e) (.type "BaseException")) true := LT.andThen (looks_mroIn q2 hm)
  unfold Builtin.Str.strOf
  refine wpAny_bind (wpAny_cRoomFor q1 ?_)
  refine wpAny_bind ?_
  unfold callSpecial?
  refine wpAny_bind (wpAny_bind (LT.here ((looks_findIn q2 hs).here (wpAny_holding (wpAny_bind (wpAny_of_eq (bstr_bind _) (wpAny_bind ?_)))))))
  refine wpAny_call (codeAny_call_builtin PySem.F.excStr_Exception.str.plain PySem.F.entry_bexc_str (@check_slot (model prog w) _ _ s' "BaseException.__str__" "BaseException" "__str__" (.ref e) [] [] _ bstr_kind bstr_split LI (PySem.F.args_bexc_str _) ?_))
  refine entry _ _ _ ?_
  show wpAny _ _ _ _ _ _
  exact wpAny_pure (wpAny_bind (wpAny_pure (wpAny_pure q5)))
end strexc
end Mine

end
section
open PySem PySem.W PyProof.Rows PySem.Calls PyProof.Rows.LCg
namespace Mine
theorem wpAny_callBorrowed {M : Model} {A : Around} {E : Value → Shared → Prop} {s : Shared} {f : Value} {pos : List Value} {Q : Value → Shared → Prop}
    (hc : codeAny M A (.call f ⟨pos, []⟩) (fun r s' => match r with | .ok (.ret v) => Q v s' | .ok _ => False | .error e => E e s') s) : wpAny M A (callBorrowed f pos) Q E s := fun Γ p hΓ => by
  have h := hc _ p rfl (hΓ.enter (.call f ⟨pos, []⟩) none p (by intro x; cases x))
  unfold callBorrowed
  rw [Sem.wp_call]
  refine wpCode_mono (fun r s' z => ?_) h
  cases r with
  | error e => exact z
  | ok f => cases f <;> first | exact z | exact z.elim
theorem slot_ci_next : Slot "callable_iterator" "__next__" "callable_iterator.__next__" := .of (owner := "callable_iterator") (n := "__next__") (by rw [typeLookup_type, builtinLookup_eq_fast]; kernel_rfl) (by decide +kernel) (by decide +kernel) (by decide +kernel)
  (by first | exact .inl (by decide +kernel) | exact .inr (by decide +kernel)) (by rw [isSubtype_type]; kernel_rfl)
theorem slot_ci_iter : Slot "callable_iterator" "__iter__" "callable_iterator.__iter__" := .of (owner := "callable_iterator") (n := "__iter__") (by rw [typeLookup_type, builtinLookup_eq_fast]; kernel_rfl) (by decide +kernel) (by decide +kernel) (by decide +kernel)
  (by first | exact .inl (by decide +kernel) | exact .inr (by decide +kernel)) (by rw [isSubtype_type]; kernel_rfl)
theorem entry_ci_next : entryFor table "callable_iterator.__next__" = some Builtin.«callable_iterator.__next__» := entryFor_of_tree (by kernel_rfl)
theorem entry_ci_iter : entryFor table "callable_iterator.__iter__" = some Builtin.«dict_keyiterator.__iter__» := entryFor_alias (id' := "dict_keyiterator.__iter__") (by kernel_rfl) rfl (by decide +kernel) (by kernel_rfl)
theorem args_ci_next (a : Value) : argsOk "callable_iterator.__next__" ⟨[a], []⟩ := by unfold argsOk; kernel_rfl
theorem args_ci_iter (a : Value) : argsOk "callable_iterator.__iter__" ⟨[a], []⟩ := by unfold argsOk; kernel_rfl
theorem slot_method_call : typeLookup (.type "method") "__call__" = pure (some (.builtin "method.__call__")) := by rw [typeLookup_type, builtinLookup_eq_fast]; kernel_rfl
theorem kind_iter : builtinKind "iter" = none := by decide +kernel
theorem plain_iter : plainId "iter" = true := by decide +kernel
theorem entry_iter : entryFor table "iter" = some Builtin.«iter» := entryFor_of_tree (by kernel_rfl)
theorem args_iter_2 (a b : Value) : argsOk "iter" ⟨[a, b], []⟩ := by unfold argsOk; kernel_rfl

section
variable {F : FnS} {C : Cx} {σ : St} {s : Shared} {A : Around} {E : Value → Shared → Prop} {x dx Cl f m it : Addr} {ns : List Str} {vs : List AV} {name : Str}
noncomputable def boundOk (K : Frag) (Cl : Addr) (name : Str) (f : Addr) : Bool := plainGet K Cl name && hasDictIn K Cl && findIn K (.ref Cl) name == some (some (.ref f)) && isFn K (.ref f) && specialIn K (.ref f) "__get__" == some (some (.builtin "function.__get__")) && takesIn K (.ref f) == some false && !copiedNames.contains name
theorem am_bound {Q : Value → Shared → Prop} {b : Bool} (h : At F C σ s) (hx : σ.H x = some (.inst Cl dx)) (hd : σ.H dx = some (.attrs ns vs)) (hn : name ∉ ns) (ha : boundOk (KK C.w) Cl name f = true)
    (k : ∀ q s', σ.H q = none → At F C (σ.put q (.meth f x)) s' → Q (.ref q) s') : Wp C.w A (getAttr (.ref x) name b) Q E s := by
  obtain ⟨es, n, I, e1, e2, e3, _⟩ := inst_at h hx hd
  simp only [boundOk, Bool.and_eq_true, beq_iff_eq, Bool.not_eq_true'] at ha
  obtain ⟨⟨⟨⟨⟨⟨a1, a2⟩, a3⟩, a4⟩, a5⟩, a6⟩, a7⟩ := ha
  obtain ⟨m₀, news, fr, N, ND, e, q, xo⟩ := id h.led
  exact ⟨kbm_bound fr h.gnd.K N I a1 a2 a3 a4 a5 a6 a7 (attrs_none e1 hn) fun q' h' f' N' l1 => k q' _ (led_no ⟨fr, N, ND, e, q, xo⟩ l1) (h.head (s' := { s with heap := h', toks := s.toks + 1 }) ⟨fr, N, ND, e, q, xo⟩ f' N' l1 rfl rfl rfl)⟩
theorem am_iter2 {Q : Value → Shared → Prop} {sv : Value} (h : At F C σ s) (hm : σ.H m = some (.meth f x)) (hs : er sv = .str []) (k : ∀ q s', σ.H q = none → At F C (σ.put q (.it (.call m))) s' → Q (.ref q) s') : Wp C.w A (call (.builtin "iter") [.ref m, sv]) Q E s := by
  obtain ⟨t, rfl⟩ := er_str hs
  obtain ⟨o, ho, hi, _⟩ := h.get hm
  cases hi
  refine ⟨call_function_tree kind_iter plain_iter entry_iter (args_iter_2 _ _) ?_⟩
  have hT : s.TypeIs (.ref m) "method" := ⟨_, ho, rfl⟩
  unfold Builtin.«iter»
  refine wpAny_bind (wpAny_pure ?_)
  refine wpAny_bind (wpAny_specialOf hT slot_method_call ?_)
  refine wpAny_bind (wpAny_rule (wpAny_bind (wpAny_newObj_type (wpAny_pure ?_) (by size_fits))))
  exact k _ _ (h.fresh (Nat.le_refl _)) (h.new (s' := { s with heap := s.heap.push _ }) rfl rfl (fun b o e => Heap.get?_push_of_some _ e) (Heap.get?_push_size _ rfl) ⟨t, rfl, rfl⟩ (Nat.le_refl _))
theorem am_iter_ci {kk : ItK} {Q : Value → Shared → Prop} (h : At F C σ s) (hit : σ.H it = some (.it kk)) (hk : kk = .call m ∨ kk = .dead) (q : Q (.ref it) s) : Wp C.w A (pyIter (.ref it)) Q E s := by
  obtain ⟨o, ho, hi, _⟩ := h.get hit
  have hT : s.TypeIs (.ref it) "callable_iterator" := by
    rcases hk with rfl | rfl
    · obtain ⟨t, h1, _⟩ := hi; exact ⟨_, ho, h1⟩
    · exact ⟨_, ho, hi.1⟩
  refine ⟨wpAny_pyIter_slot hT slot_ci_iter (wpAny_call_entry slot_ci_iter hT entry_ci_iter ?_ (args_ci_iter _))⟩
  show wpAny _ _ (ret (.ref it)) _ _ s
  exact wpAny_pure ⟨_, rfl, "callable_iterator", _, hT, slot_ci_next.lookup, q⟩
/-- StopIteration flies no farther than the loop -/
theorem stop_end {Q : Option Value → Shared → Prop} {s : Shared} {w : World} (hh : A.handled = none) {α : Type} {P : α → Shared → Prop} (h : ∀ h', (∀ b o, s.heap.get? b = some o → h'.get? b = some o) → Q none { s with heap := h' }) :
    wpAny (model PP w) A.in1 (Builtin.SmallTypes.stopIteration : Sem α) P (fun e s' => wpAny (model PP w) A (do if ← isInstance e (.type "StopIteration") then pure none else throw e) Q E s') s := by
  unfold Builtin.SmallTypes.stopIteration
  refine wpAny_bind ?_
  simp only [newExc, newTuple]
  refine wpAny_bind (wpAny_newObj_type ?_ (by size_fits))
  refine wpAny_bind (m := firstArgMember _ _) (wpAny_of_eq (a := Value.none) (by first | rfl | (simp only [firstArgMember]; rfl)) ?_)
  refine wpAny_newObj_type ?_ (by size_fits)
  simp only [raiseNew]
  refine wpAny_bind (wpAny_handled ?_)
  rw [show A.in1.handled = none from hh]
  refine wpAny_bind (wpAny_pure (wpAny_throw ?_))
  refine wpAny_bind (wpAny_isInstance (T := "StopIteration") (b := true) ⟨_, Heap.get?_push_size _ rfl, rfl⟩ isSubtype_stop ?_)
  exact wpAny_pure (h _ fun b o e => Heap.get?_push_of_some _ (Heap.get?_push_of_some _ e))
theorem am_next_dead {Q : Option Value → Shared → Prop} (h : At F C σ s) (hh : A.handled = none) (hit : σ.H it = some (.it .dead)) (k : ∀ s', At F C σ s' → Q none s') : Wp C.w A (pyNext (.ref it)) Q E s := by
  obtain ⟨o, ho, ⟨h1, h2⟩, _⟩ := h.get hit
  have hT : s.TypeIs (.ref it) "callable_iterator" := ⟨_, ho, h1⟩
  refine ⟨?_⟩
  unfold pyNext
  refine wpAny_bind (wpAny_attempt (wpAny_callSpecial?_slot (name := Str.ofString "__next__") hT slot_ci_next (wpAny_call_entry slot_ci_next hT entry_ci_next ?_ (args_ci_next _))))
  unfold Builtin.«callable_iterator.__next__»
  refine wpAny_bind (wpAny_pure (wpAny_bind (wpAny_field ho h2 (x := .bool true) rfl ?_)))
  dsimp only
  rw [if_pos (show (Value.bool true == Value.bool true) = true from rfl)]
  refine wpAny_bind (wpAny_rule (wpAny_bind ?_))
  exact stop_end hh fun h' hk => k _ (h.keeps rfl rfl hk)
theorem am_next_call {Q : Option Value → Shared → Prop} (h : At F C σ s) (hh : A.handled = none) (hit : σ.H it = some (.it (.call m))) (hm : σ.H m = some (.meth f x)) (hf : fnIn (KK C.w) f = true)
    (k : Cd C.w A.in1 (.call (.ref f) ⟨[.ref x], []⟩) (fun r s' => match r with
      | .ok (.ret v) => ∃ σ' y, At F C σ' s' ∧ er v = .str y ∧ σ'.H it = some (.it (.call m)) ∧ σ'.H m = some (.meth f x) ∧ (y = [] → ∀ s'', At F C (σ'.put it (.it .dead)) s'' → Q none s'') ∧ (y ≠ [] → Q (some v) s')
      | _ => False) s) : Wp C.w A (pyNext (.ref it)) Q E s := by
  obtain ⟨o, ho, ⟨t, h1, h2⟩, _⟩ := h.get hit
  have hT : s.TypeIs (.ref it) "callable_iterator" := ⟨_, ho, h1⟩
  have borrow : ∀ (A' : Around) (E' : Value → Shared → Prop) (Q' : Bool → Shared → Prop) (σ' : St) (s' : Shared), At F C σ' s' → σ'.H m = some (.meth f x) → Q' true s' → wpAny (model PP C.w) A' (borrowsExactly (.ref m)) Q' E' s' := fun A' E' Q' σ' s' g hm' q => by
    obtain ⟨om, hom, hi, _⟩ := g.get hm'
    cases hi
    obtain ⟨of, fd, hof, hfd⟩ := g.fnAt hf
    unfold borrowsExactly
    refine wpAny_bind (wpAny_load hom ?_)
    dsimp only
    rw [if_pos (show (Value.type "method" == Value.type "method") = true by decide)]
    show wpAny _ _ (load f >>= _) _ _ _
    refine wpAny_bind (wpAny_load hof ?_)
    rw [hfd]
    exact wpAny_pure q
  refine ⟨?_⟩
  unfold pyNext
  refine wpAny_bind (wpAny_attempt (wpAny_callSpecial?_slot (name := Str.ofString "__next__") hT slot_ci_next (wpAny_call_entry slot_ci_next hT entry_ci_next ?_ (args_ci_next _))))
  unfold Builtin.«callable_iterator.__next__»
  refine wpAny_bind (wpAny_pure (wpAny_bind (wpAny_field ho h2 (x := .bool false) rfl ?_)))
  dsimp only
  rw [if_neg (show ¬ (Value.bool false == Value.bool true) = true by decide)]
  refine wpAny_bind (wpAny_field ho h2 (x := .ref m) rfl (wpAny_bind (wpAny_attempt ?_)))
  unfold callOutOfASlot
  refine wpAny_bind (borrow _ _ _ σ s h hm ?_)
  show wpAny _ _ (callBorrowed (.ref m) []) _ _ _
  obtain ⟨om, hom, hi, _⟩ := h.get hm
  cases hi
  refine wpAny_callBorrowed (method_call hom (codeAny_mono k.ok fun r s' z => ?_))
  cases r with
  | error e => exact z.elim
  | ok fl =>
    cases fl with
    | ret v =>
      obtain ⟨σ', y, h', e, hit', hm', q1, q2⟩ := z
      obtain ⟨o', ho', ⟨t', h1', h2'⟩, _⟩ := h'.get hit'
      obtain ⟨u, rfl⟩ := er_str e
      refine wpAny_bind (wpAny_field ho' h2' (x := .bool false) rfl ?_)
      rw [if_neg (show ¬ (Value.bool false == Value.bool true) = true by decide)]
      refine wpAny_bind (wpAny_field ho' h2' (x := .str Str.empty t') rfl (wpAny_bind (wpAny_holding (eqBool_str ?_))))
      by_cases hy : y = []
      · subst hy
        have : (Str.empty == (⟨([] : List Nat).toArray⟩ : Str)) = true := by decide
        rw [this, if_neg (by decide)]
        refine wpAny_bind (wpAny_rule (wpAny_bind ?_))
        show wpAny _ _ (field (.ref it) 0 >>= fun old => slotLetsGo "callable_iterator.__next__" old _ >>= fun _ => setField (.ref it) 0 .none >>= fun _ => setField (.ref it) 1 .none >>= fun _ => setField (.ref it) 2 (.bool true)) _ _ _
        refine wpAny_bind (wpAny_field ho' h2' (x := .ref m) rfl (wpAny_bind ?_))
        unfold slotLetsGo
        refine wpAny_bind (borrow _ _ _ σ' s' h' hm' ?_)
        refine wpAny_pure ?_
        obtain ⟨oc, od, odt, osl⟩ := o'
        dsimp only at h1' h2'
        subst h1' h2'
        have g1 := Heap.get?_update_self (h := s'.heap) (Obj.mapFields fun z => z.setIfInBounds 0 Value.none) ho' rfl
        refine wpAny_bind (wpAny_setField ho' rfl (by simp) (wpAny_bind (wpAny_setField (s := { s' with heap := s'.heap.update it _ }) g1 rfl (by simp [Obj.mapFields]) ?_)))
        have g2 := Heap.get?_update_self (h := s'.heap.update it _) (Obj.mapFields fun z => z.setIfInBounds 1 Value.none) g1 rfl
        refine wpAny_setField (s := { s' with heap := (s'.heap.update it _).update it _ }) g2 rfl (by simp [Obj.mapFields]) ?_
        have g3 := Heap.get?_update_self (h := (s'.heap.update it _).update it _) (Obj.mapFields fun z => z.setIfInBounds 2 (Value.bool true)) g2 rfl
        refine stop_end hh fun h'' hk => q1 rfl _ ?_
        refine h'.upd (ao' := .it .dead) (s' := { s' with heap := h'' }) hit' rfl rfl (fun b o hb e => hk b o ?_) (hk _ _ g3) ⟨rfl, rfl⟩
        rw [Heap.get?_update_other _ _ (Ne.symm hb), Heap.get?_update_other _ _ (Ne.symm hb), Heap.get?_update_other _ _ (Ne.symm hb)]
        exact e
      · have : (Str.empty == (⟨y.toArray⟩ : Str)) = false := by
          rw [Bool.eq_false_iff]
          intro z
          have := congrArg (fun z : Str => z.cps.toList) (eq_of_beq z)
          simp [Str.empty] at this
          exact hy this
        rw [this, if_pos (by decide)]
        exact wpAny_pure ⟨_, rfl, wpAny_pure (q2 hy)⟩
    | _ => exact z.elim
end
end Mine

end
section
open PySem PySem.W PyProof.Rows PySem.Calls PyProof.Rows.LCg
namespace Mine
section
variable {w : World} {A : Around} {E : Value → Shared → Prop} {s : Shared} {env : Env}
theorem wp_augsub {o i value : Expr} {tpos pos : Pos} {op : Operator} {Q : Flow → Shared → Prop}
    (h : Wp w A (eval o env) (fun ov s₁ => Wp w A (eval i env) (fun iv s₂ => Wp w A (getItem ov iv) (fun old s₃ => Wp w A (eval value env) (fun v s₄ => Wp w A (inplaceOp op old v) (fun new s₅ => Wp w A (setItem ov iv new) (fun _ => Q .next) E s₅) E s₄) E s₃) E s₂) E s₁) E s)
    (hi : ∀ ov iv new, augStore i ov iv new = (do holding [new, ov, iv] (setItem ov iv new); release [new, ov, iv] []; pure .next) := by intros; rfl) :
    Wp w A (exec (.AugAssign (.Subscript o i tpos) op value pos) env) Q E s := ⟨wpAny_AugAssign_SubscriptAny (h.up fun _ _ x => x.up fun _ _ x => x.up fun _ _ x => x.up fun _ _ x => x.up fun _ _ x => x.ok) hi⟩
theorem wp_setattr {o attr pos' value pos} {Q : Flow → Shared → Prop} (h : Wp w A (eval value env) (fun v s₁ => Wp w A (eval o env) (fun ov s₂ => Wp w A (setAttr ov attr v) (fun _ => Q .next) E s₂) E s₁) E s)
    (hs : swapsWith value (some (.Attribute o attr pos')) pos.line env = pure false := by rfl) : Wp w A (exec (.Assign [.Attribute o attr pos'] value pos) env) Q E s := ⟨plainObj_wpAny_Assign_Attribute (h.up fun _ _ x => x.up fun _ _ x => x.ok) hs⟩
theorem wp_atup {elts k tpos value pos} {Q : Flow → Shared → Prop} (h : Wp w A (eval value env) (fun v s₁ => Wp w A (assign (.Tuple elts k tpos) env v) (fun _ => Q .next) E s₁) E s)
    (hs : swapsWithSole [.Tuple elts k tpos] value pos.line env = pure false := by rfl) (hw : swappedStores [.Tuple elts k tpos] value env = pure none := by rfl) :
    Wp w A (exec (.Assign [.Tuple elts k tpos] value pos) env) Q E s := ⟨Assign_Tuple (h.up fun _ _ x => x.ok) hs hw⟩
theorem wp_atupS {elts k tpos value pos} {names : List Str} {Q : Flow → Shared → Prop} (h : Wp w A (eval value env) (fun v s₁ => Wp w A (unpackItems v names.length none) (fun items s₂ => Wp w A (assignInOrder (names.reverse.map fun n => bindName env n) items.reverse) (fun _ => Q .next) E s₂) E s₁) E s)
    (hs : swapsWithSole [.Tuple elts k tpos] value pos.line env = pure false) (hw : swappedStores [.Tuple elts k tpos] value env = pure (some names)) :
    Wp w A (exec (.Assign [.Tuple elts k tpos] value pos) env) Q E s := ⟨Assign_Tuple_swapped (h.up fun _ _ x => x.up fun _ _ x => x.ok) hs hw⟩
theorem wp_ino {t : Value → Sem Unit} {ts : List (Value → Sem Unit)} {x : Value} {xs : List Value} {Q : Unit → Shared → Prop} (h : Wp w A (t x) (fun _ s₁ => Wp w A (assignInOrder ts xs) Q E s₁) E s) : Wp w A (assignInOrder (t :: ts) (x :: xs)) Q E s :=
  ⟨wpAny_bind (wpAny_holding (h.up fun _ _ x => x.ok))⟩
theorem wp_ino0 {xs : List Value} {Q : Unit → Shared → Prop} (h : Q () s) : Wp w A (assignInOrder [] xs) Q E s := ⟨wpAny_pure h⟩
theorem wp_bindname {x : Str} {v : Value} {Q : Unit → Shared → Prop} (h : Wp w A (storeName env x v) Q E s) : Wp w A (bindName env x v) Q E s := ⟨wpAny_bindName h.ok⟩
end
section
variable {F : FnS} {C : Cx} {σ : St} {s : Shared} {A : Around} {E : Value → Shared → Prop} {t d : Addr} {xs : List AV}
theorem At.isTuple (h : At F C σ s) (ht : σ.H t = some (.tuple xs)) : ∃ vs : List Value, s.heap.IsTuple t vs.toArray ∧ vs.map er = xs := by
  obtain ⟨o, ho, ⟨vs, n, rfl, e⟩, _⟩ := h.get ht
  exact ⟨vs, ⟨_, ho, rfl, n, rfl⟩, e⟩
theorem At.ext {h' : Heap} (h : At F C σ s) (k : Heap.ExtBut s.heap.objs.size s.heap h') : At F C σ { s with heap := h' } := h.keeps rfl rfl fun b o e => k b o (Nat.ne_of_lt (Heap.lt_size e)) e
theorem am_untuple {elts : List Expr} {kk : Nat} {pos : Pos} {Q : Unit → Shared → Prop} (h : At F C σ s) (hh : A.handled = none) (ht : σ.H t = some (.tuple xs)) (hn : (assignEach elts C.env).length = xs.length) (hstar : (assignEach elts C.env).findIdx? (·.1) = none)
    (k : ∀ vs s', vs.map er = xs → At F C σ s' → Wp C.w A (assignInOrder ((assignEach elts C.env).map (·.2)) vs) Q E s') : Wp C.w A (assign (.Tuple elts kk pos) C.env (.ref t)) Q E s := by
  obtain ⟨vs, it, e⟩ := h.isTuple ht
  have hl : vs.length = xs.length := by have := congrArg List.length e; simpa using this
  exact ⟨wpAny_assign_Tuple hh it (by rw [List.size_toArray, hl]; exact hn) hstar fun h' hx => (k vs _ e (h.ext hx)).ok⟩
theorem am_unpack {n : Nat} {Q : List Value → Shared → Prop} (h : At F C σ s) (hh : A.handled = none) (ht : σ.H t = some (.tuple xs)) (hn : n = xs.length) (k : ∀ vs s', vs.map er = xs → At F C σ s' → Q vs s') : Wp C.w A (unpackItems (.ref t) n none) Q E s := by
  obtain ⟨vs, it, e⟩ := h.isTuple ht
  have hl : vs.length = xs.length := by have := congrArg List.length e; simpa using this
  have e2 : n = vs.toArray.size := by rw [List.size_toArray, hl]; exact hn
  rw [e2]
  exact ⟨wpAny_unpackItems_tuple hh it fun h' hx => k vs _ e (h.ext hx)⟩
/-- an item of a tuple -/
theorem am_dict0 {pos : Pos} {Q : Value → Shared → Prop} (h : At F C σ s) (k : ∀ D s', σ.H D = none → At F C (σ.put D (.imap (fun _ => none) 0)) s' → Q (.ref D) s') : Wp C.w A (eval (.Dict [] [] pos) C.env) Q E s :=
  ⟨wpAny_Dict_empty (k _ _ (h.fresh (Nat.le_refl _)) (h.new (s' := { s with heap := s.heap.push _ }) rfl rfl (fun b o e => Heap.get?_push_of_some _ e) (Heap.get?_push_size _ rfl) ⟨fun _ => none, #[], 0, rfl, rfl, fun _ he => by simp at he, fun _ => rfl, Nat.le_refl _, rfl⟩ (Nat.le_refl _)))⟩
theorem am_setdict {f : Int → Option AV} {n : Nat} {iv v : Value} {i : Int} {Q : Unit → Shared → Prop} (h : At F C σ s) (hd : σ.H d = some (.imap f n)) (hn : n ≤ 100000) (hi : er iv = .int i) (k : ∀ s', At F C (σ.put d (.imap (fun x => if x = i then some (er v) else f x) (n + 1))) s' → Q () s') :
    Wp C.w A (setItem (.ref d) iv v) Q E s := by
  obtain ⟨u, rfl⟩ := er_int hi
  obtain ⟨o, ho, ⟨fv, es, ep, h1, h2, h3, h4, h5, rfl⟩, _⟩ := h.get hd
  refine ⟨wpAny_setItem_intMap_le (n := n) ⟨o, es, ep, ho, h1, h2, h3, h4⟩ (fun o' es' ep' ho' hd' => ?_) (by rw [sizeLine_eq]; omega) fun h' hm hz hs => ?_⟩
  · rw [ho] at ho'; cases ho'; rw [h2] at hd'; cases hd'; exact h5
  · obtain ⟨o', es', ep', ho', q1, q2, q3, q4⟩ := hm
    refine k _ (h.upd (s' := { s with heap := h', toks := s.toks + 1 }) hd rfl rfl (fun b o hb e => hs.extBut b o hb e) ho' ⟨_, es', ep', q1, q2, q3, q4, hz o' es' ep' ho' q2, ?_⟩)
    funext x
    dsimp only
    split <;> rfl
theorem am_getdict {f : Int → Option AV} {n : Nat} {iv : Value} {i : Int} {av : AV} {value slice : Expr} {Q : Value → Shared → Prop} (h : At F C σ s) (hd : σ.H d = some (.imap f n)) (hi : er iv = .int i) (hf : f i = some av) (k : ∀ v s', At F C σ s' → er v = av → Q v s')
    (hs : subscripted slice false (.ref d) iv = operate [.ref d, iv] (getItem (.ref d) iv) := by with_unfolding_all rfl) : Wp C.w A (subscriptTail value slice (.ref d) iv) Q E s := by
  obtain ⟨u, rfl⟩ := er_int hi
  obtain ⟨o, ho, ⟨fv, es, ep, h1, h2, h3, h4, h5, rfl⟩, _⟩ := h.get hd
  obtain ⟨v, hv, e⟩ := Option.map_eq_some_iff.mp hf
  exact ⟨tail_any ⟨o, ho, h1⟩ slot_dict_getitem.lookup (wpAny_getItem_intMap ⟨o, es, ep, ho, h1, h2, h3, h4⟩ hv (k v _ (h.tok _) e)) hs⟩
end
end Mine

end
section
open PySem PySem.W PyProof.Rows PySem.Calls PyProof.Rows.LCg
namespace Mine
noncomputable def Kp (H H' : Addr → Option AO) : Prop := ∀ a ao, H a = some ao → H' a = some ao
theorem Kp.refl (H : Addr → Option AO) : Kp H H := fun _ _ e => e
theorem Kp.trans {H H' H'' : Addr → Option AO} (x : Kp H H') (y : Kp H' H'') : Kp H H'' := fun a ao e => y a ao (x a ao e)
theorem Kp.no {H H' : Addr → Option AO} (x : Kp H H') {D : Addr} (h : H' D = none) : H D = none := by
  cases z : H D with
  | none => rfl
  | some ao => rw [x D ao z] at h; cases h
theorem Kp.upd {H H' : Addr → Option AO} (x : Kp H H') {D : Addr} {o : AO} (h : H D = none) : Kp H (hput H' D o) := fun a ao e => by
  have : a ≠ D := fun z => by rw [z, h] at e; cases e
  rw [hput_ne this]; exact x a ao e
theorem Kp.new {H H' : Addr → Option AO} (x : Kp H H') {D : Addr} {o : AO} (h : H' D = none) : Kp H (hput H' D o) := x.upd (x.no h)
theorem Kp.del {H H' : Addr → Option AO} (x : Kp H H') {D : Addr} (h : H D = none) : Kp H (hdel H' D) := fun a ao e => by
  have : a ≠ D := fun z => by rw [z, h] at e; cases e
  unfold hdel; rw [if_neg this]; exact x a ao e
theorem At.kp {F : FnS} {C : Cx} {m : List (Option AV)} {H H' : Addr → Option AO} {s : Shared} (h : At F C ⟨m, H'⟩ s) (k : Kp H H') : At F C ⟨m, H⟩ s := h.less (fun _ _ x => x) k
theorem At.weak {F : FnS} {C : Cx} {m m' : List (Option AV)} {H : Addr → Option AO} {s : Shared} (h : At F C ⟨m, H⟩ s) (k : ∀ (i : Nat) av, m'[i]? = some (some av) → m[i]? = some (some av)) : At F C ⟨m', H⟩ s := h.less k fun _ _ x => x
section
variable {w : World} {A : Around} {E : Value → Shared → Prop} {s : Shared} {env : Env}
theorem wp_or {x rest pos} {r : Expr} {Q : Value → Shared → Prop} (h : Wp w A (eval x env) (fun v s₁ => Wp w A (truthy v) (fun b s₂ => if b then Q v s₂ else Wp w A (eval (.BoolOp .Or (r :: rest) pos) env) Q E s₂) E s₁) E s) :
    Wp w A (eval (.BoolOp .Or (x :: r :: rest) pos) env) Q E s := by
  refine ⟨?_⟩
  show wpAny _ A (do
    let v ← eval x env
    standAt pos
    let t ← holding [v] (truthy v)
    match BoolOp.Or, t with
    | .And, false | .Or, true => pure v
    | _, _ => boolOp pos .Or (evalEach (r :: rest) env)) Q E s
  refine wpAny_bind (h.up fun v s₁ x => wpAny_bind (wpAny_standAt (wpAny_bind (wpAny_holding (x.up fun b s₂ y => ?_)))))
  cases b with
  | true => exact wpAny_pure y
  | false => exact y.ok
theorem wp_or1 {x pos} {Q : Value → Shared → Prop} (h : Wp w A (eval x env) Q E s) : Wp w A (eval (.BoolOp .Or [x] pos) env) Q E s := ⟨h.ok⟩
end
end Mine

end
section
open PySem PySem.W PyProof.Rows PySem.Calls PyProof.Rows.LCg
namespace Mine
section
variable {F : FnS} {C : Cx} {σ : St} {s : Shared} {A : Around}
/-- a loop over a range -/
theorem cd_range {R : Result → Shared → Prop} {target : Expr} {body : List Stmt} {it : Addr} (N : Nat) (a st : Int) (I : Nat → St → Prop) (hh : A.handled = none) (stab : ∀ j σ k, I j σ → I j (σ.put it (.it k))) (stabd : ∀ j σ, I j σ → I j ⟨σ.m, hdel σ.H it⟩)
    (turn : ∀ (T : Flow → Shared → Prop) j σ s v, (∀ σ' s₃, I (j + 1) σ' → σ'.H it = some (.it (.range (a + st * j + st) (N - j - 1) st)) → At F C σ' s₃ → T .next s₃) → (∀ σ' s₃, I (j + 1) σ' → σ'.H it = some (.it (.range (a + st * j + st) (N - j - 1) st)) → At F C σ' s₃ → T .cont s₃) → (∀ s₃, R (.ok .next) s₃ → T .brk s₃) → (∀ v s₃, R (.ok (.ret v)) s₃ → T (.ret v) s₃) → j < N → I j σ → At F C σ s → σ.H it = some (.it (.range (a + st * j + st) (N - j - 1) st)) → er v = .int (a + st * j) → Wp C.w A (assign target C.env v) (fun _ s₂ => Wp C.w A (execs body C.env) T (fun _ _ => False) s₂) (fun _ _ => False) s)
    (fin : ∀ σ s, I N σ → At F C σ s → R (.ok .next) s) (h0 : I 0 σ) (hit : σ.H it = some (.it (.range a N st))) (h : At F C σ s)
    (ht : ∀ v, letOwnedTupleGo target (.ref it) v = pure () := by intro _; rfl) : Cd C.w A (.forLoop target (.ref it) body [] C.env) R s := by
  refine cd_for (fun n σ₁ => ∃ j, j + n = N ∧ σ₁.H it = some (.it (.range (a + st * j) n st)) ∧ I j σ₁) (fun n σ₁ s₁ hI h₁ => ?_) N ⟨0, by omega, by simpa using hit, h0⟩ h ht
  obtain ⟨j, hj, hit', hI⟩ := hI
  cases n with
  | zero =>
    have : j = N := by omega
    subst this
    exact am_end_range h₁ hh hit' (by simp) fun s₂ h₂ => fin _ _ (stabd _ _ hI) h₂
  | succ n =>
    have e : ((n + 1 : Nat) : Int) - 1 = (N - j - 1 : Int) := by omega
    refine am_next_range h₁ hit' (by omega) fun v s₂ ev h₂ => ?_
    have hI2 := stab j σ₁ (.range (a + st * j + st) ((n + 1 : Nat) - 1) st) hI
    refine (turn (fun f s₃ => match f with
      | .brk => R (.ok .next) s₃
      | .ret v => R (.ok (.ret v)) s₃
      | _ => ∃ σ', I (j + 1) σ' ∧ σ'.H it = some (.it (.range (a + st * j + st) (N - j - 1) st)) ∧ At F C σ' s₃) j _ s₂ v (fun σ' _ x y z => ⟨σ', x, y, z⟩) (fun σ' _ x y z => ⟨σ', x, y, z⟩) (fun _ x => x) (fun _ _ x => x) (by omega) hI2 h₂ (by rw [← e]; exact hput_self _ _ _) ev).mono fun _ s₃ w₃ => w₃.mono fun f s₄ q => ?_
    cases f with
    | brk => exact q
    | ret v => exact q
    | next =>
      obtain ⟨σ', q1, q2, q3⟩ := q
      refine ⟨n, σ', by omega, ⟨j + 1, by omega, ?_, q1⟩, q3⟩
      rw [q2]
      have e1 : a + st * (j : Int) + st = a + st * ((j + 1 : Nat) : Int) := by rw [Int.natCast_add, Int.mul_add]; omega
      have e2 : (N - j - 1 : Int) = (n : Int) := by omega
      rw [e1, e2]
    | cont =>
      obtain ⟨σ', q1, q2, q3⟩ := q
      refine ⟨n, σ', by omega, ⟨j + 1, by omega, ?_, q1⟩, q3⟩
      rw [q2]
      have e1 : a + st * (j : Int) + st = a + st * ((j + 1 : Nat) : Int) := by rw [Int.natCast_add, Int.mul_add]; omega
      have e2 : (N - j - 1 : Int) = (n : Int) := by omega
      rw [e1, e2]
end
end Mine

end
section
open PySem PySem.W PyProof.Rows PySem.Calls PyProof.Rows.LCg
namespace Mine
/-- one sign of a word, written -/
noncomputable def needsQ (bare : Bool) (k c : Nat) : Bool := if bare then decide (c ∈ [32, 9, 13, 10, 92]) || (c == 34 && k == 0) else decide (c ∈ [34, 92])
noncomputable def sign1 (bare odd : Bool) (k c : Nat) : List Nat := (if needsQ bare k c || odd then [92] else []) ++ [c]
noncomputable def signs (bare odd : Bool) : Nat → List Nat → List Nat
  | _, [] => []
  | k, c :: r => sign1 bare odd k c ++ signs bare odd (k + 1) r
noncomputable def isBare (word : List Nat) (manner : Int) : Bool := decide (manner > 1) && !word.isEmpty
noncomputable def written (word : List Nat) (manner : Int) (white : List Nat) : List Nat :=
  if isBare word manner then signs true (manner % 2 == 1) 0 word ++ white else 34 :: signs false (manner % 2 == 1) 0 word ++ [34]

theorem signs_snoc (b o : Bool) (c : Nat) : ∀ (pre : List Nat) (k : Nat), signs b o k (pre ++ [c]) = signs b o k pre ++ sign1 b o (k + pre.length) c
  | [], k => by simp [signs]
  | d :: pre, k => by
    rw [List.cons_append, signs, signs_snoc b o c pre (k + 1), signs, List.append_assoc]
    congr 3
    simp only [List.length_cons]; omega
theorem signs_len (b o : Bool) : ∀ (pre : List Nat) (k : Nat), (signs b o k pre).length ≤ 2 * pre.length
  | [], k => by simp [signs]
  | d :: pre, k => by
    rw [signs, List.length_append]
    have := signs_len b o pre (k + 1)
    have : (sign1 b o k d).length ≤ 2 := by unfold sign1; split <;> simp
    simp only [List.length_cons]; omega
noncomputable def fWritten : FnS := ⟨["word", "manner", "white", "bare", "written", "k", "needs"], [], [], ["range", "len"]⟩
noncomputable def bWritten : List Stmt := subs (nth pBody 7)
theorem kWritten (w : World) : FnK fWritten ["word", "manner", "white"] bWritten (fdK w 138) :=
  .of3 (by kernel_rfl!) (by kernel_rfl!) (by kernel_rfl!) (by kernel_rfl!) fun a b c => by kernel_rfl!

theorem written_spec {F : FnS} {C : Cx} {σ : St} {s : Shared} {A : Around} {R : Result → Shared → Prop} {wv mv tv : Value} {word white : List Nat} {manner : Int} {n : Nat} (h : At F C σ s) (hr : Rm A (n + 1))
    (hw : er wv = .str word) (hm : er mv = .int manner) (ht : er tv = .str white) (hl : word.length ≤ 100) (hl2 : white.length ≤ 100)
    (k : ∀ v s', At F C σ s' → er v = .str (written word manner white) → R (.ok (.ret v)) s') : Cd C.w A (.call (.ref 138) ⟨[wv, mv, tv], []⟩) R s := by
  refine am_fn h (by kernel_rfl!) (by kernel_rfl!) (kWritten _) (by kernel_rfl!) rfl hr.dp rfl fun C' s' E hw' h' => ?_
  rw [show startM fWritten [wv, mv, tv] = [some (er wv), some (er mv), some (er tv), none, none, none, none] from rfl, hw, hm, ht] at h'
  have hC' : C'.w = C.w := hw'
  -- the way back
  have fin : ∀ (σ₁ : St) s, At fWritten C' σ₁ s → Kp σ.H σ₁.H → σ₁.m[2]? = some (some (.str white)) → σ₁.m[3]? = some (some (.bool (isBare word manner))) → σ₁.m[4]? = some (some (.str (signs (isBare word manner) (manner % 2 == 1) 0 word))) →
      (signs (isBare word manner) (manner % 2 == 1) 0 word).length ≤ 1000 →
      Wp C'.w (A.deeper C'.env) (execs (bWritten.drop 3) C'.env) (Back F C σ fWritten C' R) E s := fun σ₁ s h₁ kp m2 m3 m4 hz => by
    refine wp_cons (wp_ret (wp_ifexp (wp_tplain (am_local 3 h₁ rfl m3 fun v e => ?_))))
    cases er_bool e
    refine am_truthy_bool ?_
    cases hb : isBare word manner with
    | true =>
      rw [if_pos rfl]
      refine wp_binop (am_local 4 h₁ rfl m4 fun v e => am_local 2 h₁ rfl m2 fun v₂ e₂ => am_sadd h₁ e e₂ (by omega) fun v₃ s₃ h₃ e₃ => back_ret h₃ fun h₄ => k _ _ (h₄.kp kp) ?_)
      rw [e₃]; unfold written; rw [hb, if_pos rfl]
    | false =>
      rw [if_neg (by decide)]
      refine wp_binop (wp_binop (am_cstr h₁ fun v s₂ h₂ e => am_local 4 h₂ rfl m4 fun v₂ e₂ => am_sadd h₂ e e₂ (by show 1 + _ ≤ _; omega) fun v₃ s₃ h₃ e₃ => am_cstr h₃ fun v₄ s₄ h₄ e₄ => am_sadd h₄ e₃ e₄ ?_ fun v₅ s₅ h₅ e₅ => back_ret h₅ fun h₆ => k _ _ (h₆.kp kp) ?_))
      · rw [List.length_append]; show 1 + _ + 1 ≤ _; omega
      · rw [e₅]; unfold written; rw [hb, if_neg (by decide)]; rfl
  -- the loop
  have loop : ∀ s, At fWritten C' ⟨[some (.str word), some (.int manner), some (.str white), some (.bool (isBare word manner)), some (.str []), none, none], σ.H⟩ s →
      Wp C'.w (A.deeper C'.env) (execs (bWritten.drop 2) C'.env) (Back F C σ fWritten C' R) E s := fun s h₁ => by
    refine wp_cons (wp_for (wp_callx (am_bltn 0 h₁ rfl (by kernel_rfl!) (by kernel_rfl!) (by decide) (wp_targs (wp_sp (wp_callx (am_bltn 1 h₁ rfl (by kernel_rfl!) (by kernel_rfl!) (by decide) (wp_bargs (wp_sp (am_local 0 h₁ rfl rfl fun v e => wp_sp0
      (am_slen h₁ e (by omega) fun v₁ s₁ h₂ e₁ => wp_sp0 (am_range1 h₂ e₁ fun D s₂ t u w hD h₃ => am_iter_range h₃ (hput_self _ _ _) (small_of (by omega) (by omega) (by omega) (by omega) (.inl rfl)) fun it s₃ hit h₄ => ?_))))))))))))
    have kp1 : Kp σ.H (hput σ.H D (.raw (rngObj 0 word.length 1 t u w))) := (Kp.refl σ.H).new hD
    have hit0 : σ.H it = none := kp1.no hit
    have hh : (A.deeper C'.env).handled = none := hr.hand
    refine cd_range (F := fWritten) word.length 0 1 (fun j σ₁ => ∃ x5 x6 H', σ₁ = ⟨[some (.str word), some (.int manner), some (.str white), some (.bool (isBare word manner)), some (.str (signs (isBare word manner) (manner % 2 == 1) 0 (word.take j))), x5, x6], H'⟩ ∧ Kp σ.H H') hh
      (fun j σ₁ k ⟨x5, x6, H', e, q⟩ => ⟨x5, x6, hput H' it (.it k), by rw [e]; rfl, q.upd hit0⟩) (fun j σ₁ ⟨x5, x6, H', e, q⟩ => ⟨x5, x6, hdel H' it, by rw [e], q.del hit0⟩) (fun T j σ₁ s v tn tc tb tr hj ⟨x5, x6, H', eσ, kp⟩ h₅ hI ev => ?_) (fun σ₁ s ⟨x5, x6, H', eσ, kp⟩ h₅ => ?_)
      ⟨none, none, _, rfl, kp1.upd hit0⟩ (by rw [show (_ : St).H it = _ from hput_self _ _ _, rsize_up (by omega)]; simp) h₄
    · subst eσ
      obtain ⟨c, hc⟩ : ∃ c, word[j]? = some c := ⟨word[j], List.getElem?_eq_getElem hj⟩
      have ej : (0 + 1 * (j : Int)) = (j : Int) := by omega
      rw [ej] at ev
      have item : ∀ (σ₂ : St) s (Q : Value → Shared → Prop) (E : Value → Shared → Prop) p1 p2 p3, At fWritten C' σ₂ s → σ₂.m[0]? = some (some (.str word)) → σ₂.m[5]? = some (some (.int j)) → (∀ v s', At fWritten C' σ₂ s' → er v = .str [c] → Q v s') →
          Wp C'.w (A.deeper C'.env) (eval (.Subscript (.Name "word" p1) (.Name "k" p2) p3) C'.env) Q E s := fun σ₂ s Q E p1 p2 p3 g a b q =>
        wp_sub (am_local 0 g rfl a fun v e => am_local 5 g rfl b fun v₂ e₂ => am_sitem g e e₂ (by omega) (by omega) (by simpa using hc) q)
      refine wp_asgn (am_store 5 h₅ rfl fun s₂ h₆ => ?_)
      rw [ev] at h₆
      have sl := signs_len (isBare word manner) (manner % 2 == 1) (word.take j) 0
      have tl : (word.take j).length ≤ 100 := by rw [List.length_take]; omega
      -- the second row
      have row2 : ∀ (Q : Flow → Shared → Prop) s, At fWritten C' ⟨[some (.str word), some (.int manner), some (.str white), some (.bool (isBare word manner)), some (.str (signs (isBare word manner) (manner % 2 == 1) 0 (word.take j))), some (.int j), some (.bool (needsQ (isBare word manner) j c))], H'⟩ s →
          (∀ s', At fWritten C' ⟨[some (.str word), some (.int manner), some (.str white), some (.bool (isBare word manner)), some (.str (signs (isBare word manner) (manner % 2 == 1) 0 (word.take (j + 1)))), some (.int j), some (.bool (needsQ (isBare word manner) j c))], H'⟩ s' → Q .next s') →
          Wp C'.w (A.deeper C'.env) (execs ((match nth bWritten 2 with | .For _ _ b _ _ => b | _ => []).drop 1) C'.env) Q (fun _ _ => False) s := fun Q s g q => by
        have fin2 : ∀ old v s, At fWritten C' ⟨[some (.str word), some (.int manner), some (.str white), some (.bool (isBare word manner)), some (.str (signs (isBare word manner) (manner % 2 == 1) 0 (word.take j))), some (.int j), some (.bool (needsQ (isBare word manner) j c))], H'⟩ s →
            er old = .str (signs (isBare word manner) (manner % 2 == 1) 0 (word.take j)) → er v = .str (if needsQ (isBare word manner) j c || (manner % 2 == 1) then [92] else []) → ∀ p1 p2 p3,
            Wp C'.w (A.deeper C'.env) (eval (.Subscript (.Name "word" p1) (.Name "k" p2) p3) C'.env) (fun b s₂ => Wp C'.w (A.deeper C'.env) (binaryOp .Add v b) (fun x s₃ => Wp C'.w (A.deeper C'.env) (inplaceOp .Add old x) (fun r s₄ => Wp C'.w (A.deeper C'.env) (storeName C'.env "written" r) (fun _ s₅ => Wp C'.w (A.deeper C'.env) (execs [] C'.env) Q (fun _ _ => False) s₅) (fun _ _ => False) s₄) (fun _ _ => False) s₃) (fun _ _ => False) s₂) (fun _ _ => False) s := fun old v s g eo ev p1 p2 p3 => by
          refine item _ s _ _ p1 p2 p3 g rfl rfl fun v₂ s₂ g₂ e₂ => am_sadd g₂ ev e₂ ?_ fun v₃ s₃ g₃ e₃ => am_isadd g₃ eo e₃ ?_ fun v₄ s₄ g₄ e₄ => am_store 4 g₄ rfl fun s₅ g₅ => wp_nil (q _ ?_)
          · split <;> simp
          · rw [List.length_append]; split <;> simp <;> omega
          · rw [e₄] at g₅
            have : word.take (j + 1) = word.take j ++ [c] := by rw [List.take_add_one, hc]; rfl
            rw [this, signs_snoc, List.length_take, Nat.min_eq_left (by omega), Nat.zero_add]
            exact g₅
        refine wp_cons (wp_aug (am_ldlocal 4 g rfl rfl fun old eo => wp_binop (wp_ifexp (wp_tor (wp_tplain (am_local 6 g rfl rfl fun v e => ?_))))))
        cases er_bool e
        refine am_truthy_bool ?_
        cases hn : needsQ (isBare word manner) j c with
        | true =>
          rw [if_pos rfl, if_pos rfl]
          exact am_cstr g fun v s₂ g₂ e₂ => fin2 _ _ _ g₂ eo (by rw [hn]; exact e₂) _ _ _
        | false =>
          rw [if_neg (by decide)]
          refine wp_tor (wp_tcmp (wp_binop (am_local 1 g rfl rfl fun v e => am_cint g fun v₂ s₂ g₂ e₂ => am_mod g₂ e e₂ (by decide) fun v₃ s₃ g₃ e₃ => am_cint g₃ fun v₄ s₄ g₄ e₄ => am_eq e₃ e₄ (am_truthy_bool ?_))))
          cases ho : (manner % 2 == 1) with
          | true =>
            rw [if_pos rfl, if_pos rfl]
            exact am_cstr g₄ fun v s₂ g₂ e₂ => fin2 _ _ _ g₂ eo (by rw [hn, ho]; exact e₂) _ _ _
          | false =>
            rw [if_neg (by decide)]
            refine wp_tor0 ?_
            rw [if_neg (by decide)]
            exact am_cstr g₄ fun v s₂ g₂ e₂ => fin2 _ _ _ g₂ eo (by rw [hn, ho]; exact e₂) _ _ _
      -- the first row
      have stored : ∀ (b : Bool) (Q : Flow → Shared → Prop) s, b = needsQ (isBare word manner) j c → At fWritten C' ⟨[some (.str word), some (.int manner), some (.str white), some (.bool (isBare word manner)), some (.str (signs (isBare word manner) (manner % 2 == 1) 0 (word.take j))), some (.int j), x6], H'⟩ s →
          (∀ s', At fWritten C' ⟨[some (.str word), some (.int manner), some (.str white), some (.bool (isBare word manner)), some (.str (signs (isBare word manner) (manner % 2 == 1) 0 (word.take (j + 1)))), some (.int j), some (.bool (needsQ (isBare word manner) j c))], H'⟩ s' → Q .next s') →
          Wp C'.w (A.deeper C'.env) (storeName C'.env "needs" (.bool b)) (fun _ s' => Wp C'.w (A.deeper C'.env) (execs ((match nth bWritten 2 with | .For _ _ b _ _ => b | _ => []).drop 1) C'.env) Q (fun _ _ => False) s') (fun _ _ => False) s := fun b Q s eb g q =>
        am_store 6 g rfl fun s₂ g₂ => row2 Q _ (by rw [← eb]; exact g₂) q
      refine wp_cons (wp_assign (wp_ifexp (wp_tplain (am_local 3 h₆ rfl rfl fun v e => ?_))))
      cases er_bool e
      refine am_truthy_bool ?_
      have done : ∀ s', At fWritten C' ⟨[some (.str word), some (.int manner), some (.str white), some (.bool (isBare word manner)), some (.str (signs (isBare word manner) (manner % 2 == 1) 0 (word.take (j + 1)))), some (.int j), some (.bool (needsQ (isBare word manner) j c))], H'⟩ s' → T .next s' := fun s' g => tn _ _ ⟨_, _, _, rfl, kp⟩ hI g
      rcases Bool.eq_false_or_eq_true (isBare word manner) with hb | hb
      · rw [if_pos hb]
        refine wp_or (wp_cmp (item _ _ _ _ _ _ _ h₆ rfl rfl fun v s₂ g₂ e₂ => am_cstr g₂ fun v₂ s₃ g₃ e₃ => am_in1 e₂ e₃ (am_truthy_bool ?_)))
        cases h1 : decide (c ∈ (Str.ofString " \t\r\n\\").cps.toList) with
        | true =>
          rw [if_pos rfl]
          exact stored _ _ _ (by rw [hb]; unfold needsQ; rw [if_pos rfl]; rw [show decide (c ∈ [32, 9, 13, 10, 92]) = true from h1]; rfl) g₃ done
        | false =>
          rw [if_neg (by decide)]
          refine wp_or1 (wp_and (wp_cmp (item _ _ _ _ _ _ _ g₃ rfl rfl fun v s₄ g₄ e₄ => am_cstr g₄ fun v₂ s₅ g₅ e₅ => am_seq e₄ e₅ (am_truthy_bool ?_))))
          cases h2 : ([c] == (Str.ofString "\"").cps.toList) with
          | true =>
            rw [if_pos rfl]
            refine wp_and1 (wp_cmp (am_local 5 g₅ rfl rfl fun v e₆ => am_cint g₅ fun v₂ s₆ g₆ e₇ => am_eq e₆ e₇ (stored _ _ _ ?_ g₆ done)))
            rw [hb]; unfold needsQ; rw [if_pos rfl, show decide (c ∈ [32, 9, 13, 10, 92]) = false from h1]
            have : (c == 34) = true := by
              have h2' : ([c] == [34]) = true := h2
              simpa using h2'
            rw [this]
            cases j with
            | zero => rfl
            | succ j =>
              have : (((j + 1 : Nat) : Int) == 0) = false := by
                rw [Bool.eq_false_iff]; intro z
                have : ((j + 1 : Nat) : Int) = 0 := by simpa using z
                omega
              rw [this]; rfl
          | false =>
            rw [if_neg (by decide)]
            refine stored _ _ _ ?_ g₅ done
            rw [hb]; unfold needsQ; rw [if_pos rfl, show decide (c ∈ [32, 9, 13, 10, 92]) = false from h1]
            have : (c == 34) = false := by
              rw [Bool.eq_false_iff]; intro z
              have : c = 34 := by simpa using z
              subst this
              cases h2
            rw [this]; rfl
      · rw [if_neg (by rw [hb]; decide)]
        refine wp_cmp (item _ _ _ _ _ _ _ h₆ rfl rfl fun v s₂ g₂ e₂ => am_cstr g₂ fun v₂ s₃ g₃ e₃ => am_in1 e₂ e₃ (stored _ _ _ ?_ g₃ done))
        rw [hb]; unfold needsQ; rw [if_neg (by decide)]; rfl
    · subst eσ
      rw [List.take_length] at h₅
      refine fin _ s h₅ kp rfl rfl rfl ?_
      have := signs_len (isBare word manner) (manner % 2 == 1) word 0
      omega
  -- bare and the empty text
  have start : ∀ s, At fWritten C' ⟨[some (.str word), some (.int manner), some (.str white), some (.bool (isBare word manner)), none, none, none], σ.H⟩ s →
      Wp C'.w (A.deeper C'.env) (execs (bWritten.drop 1) C'.env) (Back F C σ fWritten C' R) E s := fun s h₁ =>
    wp_cons (wp_assign (am_cstr h₁ fun v s₂ h₂ e => am_store 4 h₂ rfl fun s₃ h₃ => by rw [e] at h₃; exact loop _ h₃))
  refine wp_cons (wp_assign (wp_and (wp_cmp (am_local 1 h' rfl rfl fun v e => am_cint h' fun v₂ s₂ h₂ e₂ => am_gt e e₂ (am_truthy_bool ?_)))))
  by_cases hm1 : manner > 1
  · rw [if_pos (decide_eq_true hm1)]
    refine wp_and1 (wp_cmp (am_local 0 h₂ rfl rfl fun v e => am_cstr h₂ fun v₂ s₃ h₃ e₂ => am_sne e e₂ (am_store 3 h₃ rfl fun s₄ h₄ => start _ ?_)))
    have : isBare word manner = (word != (Str.ofString "").cps.toList) := by
      unfold isBare; rw [decide_eq_true hm1]; cases word <;> rfl
    rw [this]; exact h₄
  · rw [if_neg (by rw [decide_eq_false hm1]; decide)]
    refine am_store 3 h₂ rfl fun s₄ h₄ => start _ ?_
    have : isBare word manner = decide (manner > 1) := by
      unfold isBare; rw [decide_eq_false hm1]; rfl
    rw [this]; exact h₄
end Mine

end
section
open PySem PySem.W PyProof.Rows PySem.Calls PyProof.Rows.LCg
namespace Mine
noncomputable def tNames : List Str := ["fp", "offset"]
noncomputable def lNames : List Str := ["lineno", "instream", "whitespace", "pushback"]
noncomputable def fSelf : FnS := ⟨["self"], [], [], []⟩
noncomputable def fSelfFp : FnS := ⟨["self", "fp"], [], [], []⟩
noncomputable def fSelfTok : FnS := ⟨["self", "token"], [], [], []⟩
noncomputable def bT (i : Nat) : List Stmt := subs (nth (subs (nth pBody 3)) i)
noncomputable def bN (i : Nat) : List Stmt := subs (nth (subs (nth pBody 5)) i)
theorem kTell (w : World) : FnK fSelf ["self"] (bT 2) (fdK w 68) :=
  .of1 (by kernel_rfl!) (by kernel_rfl!) (by kernel_rfl!) (by kernel_rfl!) fun a => by kernel_rfl!
theorem kTInit (w : World) : FnK fSelfFp ["self", "fp"] (bT 0) (fdK w 54) :=
  .of2 (by kernel_rfl!) (by kernel_rfl!) (by kernel_rfl!) (by kernel_rfl!) fun a b => by kernel_rfl!
theorem kNInit (w : World) : FnK fSelfFp ["self", "fp"] (bN 0) (fdK w 103) :=
  .of2 (by kernel_rfl!) (by kernel_rfl!) (by kernel_rfl!) (by kernel_rfl!) fun a b => by kernel_rfl!
theorem kNPush (w : World) : FnK fSelfTok ["self", "token"] (bN 3) (fdK w 124) :=
  .of2 (by kernel_rfl!) (by kernel_rfl!) (by kernel_rfl!) (by kernel_rfl!) fun a b => by kernel_rfl!
section
variable {F : FnS} {C : Cx} {σ : St} {s : Shared} {A : Around} {R : Result → Shared → Prop} {x dx : Addr} {n : Nat}
theorem tell_spec {fp : AV} {o : Int} (h : At F C σ s) (hr : Rm A (n + 1)) (hx : σ.H x = some (.inst 85 dx)) (hd : σ.H dx = some (.attrs tNames [fp, .int o]))
    (k : ∀ v s', At F C σ s' → er v = .int o → R (.ok (.ret v)) s') : Cd C.w A (.call (.ref 68) ⟨[.ref x], []⟩) R s := by
  refine am_fn h (by kernel_rfl!) (by kernel_rfl!) (kTell _) (by kernel_rfl!) rfl hr.dp rfl fun C' s' E hw h' => ?_
  refine wp_cons (wp_ret (wp_attr (am_local 0 h' rfl rfl fun v e => ?_)))
  cases er_ref e
  refine am_getattr 1 h' hx hd rfl rfl (by kernel_rfl!) rfl fun v s₁ h₁ e₁ => back_ret h₁ fun h₂ => k v s₁ h₂ e₁
/-- a tell-able stream over fp -/
theorem tell_make {fv : Value} (h : At F C σ s) (hr : Rm A (n + 2)) (k : ∀ x dx s', σ.H x = none → σ.H dx = none → x ≠ dx → At F C ((σ.put dx (.attrs tNames [er fv, .int 0])).put x (.inst 85 dx)) s' → R (.ok (.ret (.ref x))) s') :
    Cd C.w A (.call (.ref 85) ⟨[fv], []⟩) R s := by
  refine am_make h (by kernel_rfl!) (fI := 54) (by kernel_rfl!) (by kernel_rfl!) fun x dx s₁ hdx hx ne h₁ => ?_
  have gx : ((σ.put dx (.attrs [] [])).put x (.inst 85 dx)).H x = some (.inst 85 dx) := hput_self _ _ _
  have gd : ((σ.put dx (.attrs [] [])).put x (.inst 85 dx)).H dx = some (.attrs [] []) := by show hput _ _ _ _ = _; rw [hput_ne ne]; exact hput_self _ _ _
  refine am_fn h₁ (by kernel_rfl!) (by kernel_rfl!) (kTInit _) (by kernel_rfl!) rfl (hr.make (n := n + 1)).dp rfl fun C' s' E hw h' => ?_
  refine wp_cons (wp_setattr (am_local 1 h' rfl rfl fun v e => am_local 0 h' rfl rfl fun v₂ e₂ => ?_))
  cases er_ref e₂
  refine am_addattr h' gx gd (by decide) (by kernel_rfl!) (by decide) fun s₂ h₂ => ?_
  refine wp_cons (wp_setattr (am_cint h₂ fun v₃ s₃ h₃ e₃ => am_local 0 h₃ rfl rfl fun v₄ e₄ => ?_))
  cases er_ref e₄
  refine am_addattr (ns := ["fp"]) (vs := [er v]) h₃ (by show hput _ _ _ _ = _; rw [hput_ne ne.symm]; exact gx) (hput_self _ _ _) (by decide) (by kernel_rfl!) (by decide) fun s₄ h₄ => wp_nil (back_next h₄ fun h₅ => ⟨rfl, k x dx _ hx hdx ne.symm (h₅.kp fun a ao ha => ?_)⟩)
  rw [e, e₃]
  show hput (hput _ _ _) _ _ _ = _
  dsimp only [St.put] at ha
  unfold hput at ha ⊢
  by_cases e1 : a = x
  · subst e1; rw [if_pos rfl] at ha; rw [if_neg ne.symm, if_neg ne.symm]; show hput _ _ _ _ = _; rw [hput_self]; exact ha
  · rw [if_neg e1] at ha
    by_cases e2 : a = dx
    · rw [if_pos e2] at ha ⊢; exact ha
    · rw [if_neg e2] at ha ⊢; rw [if_neg e2]; show hput _ _ _ _ = _; rw [hput_ne e1]; show hput _ _ _ _ = _; rw [hput_ne e2]; exact ha
end
end Mine

end
section
open PySem PySem.W PyProof.Rows PySem.Calls PyProof.Rows.LCg
namespace Mine
noncomputable def fdScope : Stmt → Scope
  | .FunctionDef _ _ _ _ _ _ sc _ _ _ => sc
  | _ => default
noncomputable def fdParams : Stmt → Arguments
  | .FunctionDef _ p _ _ _ _ _ _ _ _ => p
  | _ => default
noncomputable def stRead : Stmt := nth (subs (nth pBody 9)) 1
noncomputable def bRead : List Stmt := subs stRead
noncomputable def fRead : FnS := ⟨["count", "part"], [], ["place", "text"], ["len"]⟩
noncomputable abbrev fdRead (qual : Str) (clos : List (Str × Addr)) (doc pm : Value) (c : Addr) (ctv : Value) : FuncData := fdDef "read" qual (fdParams stRead) bRead (fdScope stRead) clos doc pm c ctv
theorem kRead (qual : Str) (clos : List (Str × Addr)) (doc pm : Value) (c : Addr) (ctv : Value) : FnK fRead ["count"] bRead (fdRead qual clos doc pm c ctv) :=
  .of1 rfl rfl rfl (by kernel_rfl!) fun a => by kernel_rfl!
/-- a stream's parts -/
structure StreamIds where
  st : Addr
  ds : Addr
  rd : Addr
  c : Addr
  cp : Addr
  ct : Addr
  pl : Addr
noncomputable def StreamAt (H : Addr → Option AO) (i : StreamIds) (text : List Nat) (pos : Nat) : Prop :=
  (∃ fd, H i.st = some (.fn fd (some i.ds))) ∧ H i.ds = some (.attrs ["read"] [.ref i.rd]) ∧ (∃ qual doc pm ctv, H i.rd = some (.fn (fdRead qual [("text", i.ct), ("place", i.cp)] doc pm i.c ctv) none) ∧ H i.c = some (.code qual)) ∧
    H i.cp = some (.cell (some (.ref i.pl))) ∧ H i.ct = some (.cell (some (.str text))) ∧ H i.pl = some (.vec [.int pos])
section
variable {F : FnS} {C : Cx} {σ : St} {s : Shared} {A : Around} {R : Result → Shared → Prop} {n : Nat}
theorem At.codeRec {c : Addr} {q : Str} (h : At F C σ s) (hc : σ.H c = some (.code q)) : s.heap.CodeRec (.ref c) q := by
  obtain ⟨o, ho, ⟨vs, t, h1, h2⟩, _⟩ := h.get hc
  exact ⟨c, o, vs, t, rfl, ho, h1, h2⟩
theorem read_spec {i : StreamIds} {text : List Nat} {pos : Nat} {cv : Value} (h : At F C σ s) (hr : Rm A (n + 1)) (S : StreamAt σ.H i text pos) (hp : pos ≤ text.length) (hl : text.length ≤ 100000) (hc : er cv = .int 1)
    (k : ∀ v s', er v = .str ((text.drop pos).take 1) → At F C (σ.put i.pl (.vec [.int (pos + ((text.drop pos).take 1).length : Nat)])) s' → R (.ok (.ret v)) s') : Cd C.w A (.call (.ref i.rd) ⟨[cv], []⟩) R s := by
  obtain ⟨_, _, ⟨qual, doc, pm, ctv, S3, S4⟩, S5, S6, S7⟩ := S
  obtain ⟨o, ho, ⟨c1, c2, c3⟩, _⟩ := h.get S3
  refine am_callN h ho c3 (kRead qual _ doc pm _ ctv) (h.codeRec S4) rfl hr.dp [i.cp, i.ct] (fun j x c hx hc' => ?_) fun C' s' E hw hfa h' => ?_
  · match j, hx, hc' with
    | 0, hx, hc' => cases hx; cases hc'; rfl
    | 1, hx, hc' => cases hx; cases hc'; rfl
    | j + 2, hx, _ => simp [fRead] at hx
  have f0 : C'.fa[0]? = some i.cp := by rw [hfa]; rfl
  have f1 : C'.fa[1]? = some i.ct := by rw [hfa]; rfl
  -- part = text[place[0]:place[0] + count]
  refine wp_cons (wp_assign (wp_sub (am_free 1 h' rfl f1 S6 fun tv et => wp_slice (wp_psome (wp_sub (am_free 0 h' rfl f0 S5 fun pv ep => ?_))))))
  cases er_ref ep
  refine am_cint h' fun zv s₁ h₁ ez => am_tailitem h₁ (.inr S7) ez (by decide) rfl (by decide) fun lv el => wp_psome (wp_binop (wp_sub (am_free 0 h₁ rfl f0 S5 fun pv ep => ?_)))
  cases er_ref ep
  refine am_cint h₁ fun zv s₂ h₂ ez => am_tailitem h₂ (.inr S7) ez (by decide) rfl (by decide) fun l2 el2 => am_local 0 h₂ rfl rfl fun c2 ec => am_add h₂ el2 (ec.trans hc) fun uv s₃ h₃ eu => wp_pnone ?_
  refine am_sslice (li := some (pos : Int)) (ui := some ((pos : Int) + 1)) h₃ et el eu (by omega) fun v s₄ h₄ ev => am_store 1 h₄ rfl fun s₅ h₅ => ?_
  have cut : (text.drop (loOf (some (pos : Int)) text.length)).take (hiOf (some ((pos : Int) + 1)) text.length - loOf (some (pos : Int)) text.length) = (text.drop pos).take 1 := by
    have e1 : loOf (some (pos : Int)) text.length = pos := loOf_ge (by omega)
    have e2 : hiOf (some ((pos : Int) + 1)) text.length = min (pos + 1) text.length := hiOf_nat (pos + 1) _
    rw [e1, e2]
    by_cases hlt : pos < text.length
    · rw [Nat.min_eq_left (by omega)]; congr 1; omega
    · rw [List.drop_of_length_le (by omega)]; simp
  rw [ev, cut] at h₅
  have hlen : ((text.drop pos).take 1).length ≤ 1 := by rw [List.length_take]; omega
  refine wp_cons (wp_augsub (am_free 0 h₅ rfl f0 S5 fun pv ep => ?_))
  cases er_ref ep
  refine am_cint h₅ fun zv s₆ h₆ ez => am_item h₆ (.inr S7) ez (by decide) rfl (by decide) fun ov eo => wp_callx (am_bltn 0 h₆ rfl (by kernel_rfl!) (by kernel_rfl!) (by decide) (wp_bargs (wp_sp (am_local 1 h₆ rfl rfl fun qv eq => wp_sp0 (am_slen h₆ eq (by omega) fun nv s₇ h₇ en => am_iadd h₇ eo en fun rv s₈ h₈ er' => ?_)))))
  refine am_setitem h₈ S7 ez (by decide) (by show (0 : Int) < 1; decide) (by decide) fun s₉ h₉ => ?_
  rw [er'] at h₉
  refine wp_cons (wp_ret (am_local 1 h₉ rfl rfl fun v₂ e₂ => back_ret h₉ fun h₁₀ => k v₂ _ e₂ ?_))
  have : (([AV.int (pos : Int)]).set (0 : Int).toNat (.int ((pos : Int) + ((text.drop pos).take 1).length))) = [AV.int ((pos + ((text.drop pos).take 1).length : Nat) : Int)] := by
    rw [Int.natCast_add]; rfl
  rw [this] at h₁₀
  exact h₁₀
end
/-- the lexer's parts -/
structure LexIds where
  x : Addr
  dx : Addr
  pb : Addr
  i : StreamIds
noncomputable def whites : List Nat := [10, 9, 13, 32]
structure LexAt (H : Addr → Option AO) (l : LexIds) (text : List Nat) (pos : Nat) (line : Int) (pb : List (List Nat)) : Prop where
  x : H l.x = some (.inst 127 l.dx)
  dx : H l.dx = some (.attrs lNames [.int line, .ref l.i.st, .str whites, .ref l.pb])
  pb : H l.pb = some (.list (pb.map AV.str))
  st : StreamAt H l.i text pos
  ap : l.dx ≠ l.i.pl
/-- nothing else is touched -/
noncomputable def But (l : List Addr) (H H' : Addr → Option AO) : Prop := ∀ a ao, a ∉ l → H a = some ao → H' a = some ao
theorem But.put {l : List Addr} {H H' : Addr → Option AO} (x : But l H H') {D : Addr} {o : AO} (h : D ∈ l ∨ H D = none) : But l H (hput H' D o) := fun a ao n e => by
  have : a ≠ D := fun z => by
    subst z
    rcases h with h | h
    · exact n h
    · rw [h] at e; cases e
  rw [hput_ne this]; exact x a ao n e
theorem But.refl (l : List Addr) (H : Addr → Option AO) : But l H H := fun _ _ _ e => e
theorem put_keep {H : Addr → Option AO} {a D : Addr} {ao o : AO} (h : H a = some ao) (n : a ≠ D) : hput H D o a = some ao := by rw [hput_ne n]; exact h
theorem ne_of {H : Addr → Option AO} {a b : Addr} {x y : AO} (ha : H a = some x) (hb : H b = some y) (n : x ≠ y) : a ≠ b := fun z => by subst z; rw [ha] at hb; exact n (Option.some.inj hb)
theorem kNRead (w : World) : FnK ⟨["self", "ch"], [], [], []⟩ ["self"] (bN 1) (fdK w 110) :=
  .of1 (by kernel_rfl!) (by kernel_rfl!) (by kernel_rfl!) (by kernel_rfl!) fun a => by kernel_rfl!
noncomputable def fNRead : FnS := ⟨["self", "ch"], [], [], []⟩
section
variable {F : FnS} {C : Cx} {σ : St} {s : Shared} {A : Around} {R : Result → Shared → Prop} {n : Nat}
theorem StreamAt.put {H : Addr → Option AO} {i : StreamIds} {text : List Nat} {pos pos' : Nat} (S : StreamAt H i text pos) : StreamAt (hput H i.pl (.vec [.int pos'])) i text pos' := by
  obtain ⟨⟨fd, S1⟩, S2, ⟨qual, doc, pm, ctv, S3, S4⟩, S5, S6, S7⟩ := S
  exact ⟨⟨fd, put_keep S1 (ne_of S1 S7 nofun)⟩, put_keep S2 (ne_of S2 S7 nofun), ⟨qual, doc, pm, ctv, put_keep S3 (ne_of S3 S7 nofun), put_keep S4 (ne_of S4 S7 nofun)⟩, put_keep S5 (ne_of S5 S7 nofun), put_keep S6 (ne_of S6 S7 nofun), hput_self _ _ _⟩
/-- what a stream is made of -/
noncomputable def Streamy (ao : AO) : Prop := (∀ (ns : List Str) vs, ns ≠ ([("read" : Str)] : List Str) → ao ≠ .attrs ns vs) ∧ (∀ xs, ao ≠ .list xs) ∧ ∀ Cl d, ao ≠ .inst Cl d
theorem StreamAt.keep {H H' : Addr → Option AO} {i : StreamIds} {text : List Nat} {pos : Nat} (S : StreamAt H i text pos) (k : ∀ a ao, H a = some ao → Streamy ao → H' a = some ao) : StreamAt H' i text pos := by
  obtain ⟨⟨fd, S1⟩, S2, ⟨qual, doc, pm, ctv, S3, S4⟩, S5, S6, S7⟩ := S
  refine ⟨⟨fd, k _ _ S1 ⟨fun _ _ _ => nofun, fun _ => nofun, fun _ _ => nofun⟩⟩, k _ _ S2 ⟨fun ns vs n z => ?_, fun _ => nofun, fun _ _ => nofun⟩, ⟨qual, doc, pm, ctv, k _ _ S3 ⟨fun _ _ _ => nofun, fun _ => nofun, fun _ _ => nofun⟩, k _ _ S4 ⟨fun _ _ _ => nofun, fun _ => nofun, fun _ _ => nofun⟩⟩,
    k _ _ S5 ⟨fun _ _ _ => nofun, fun _ => nofun, fun _ _ => nofun⟩, k _ _ S6 ⟨fun _ _ _ => nofun, fun _ => nofun, fun _ _ => nofun⟩, k _ _ S7 ⟨fun _ _ _ => nofun, fun _ => nofun, fun _ _ => nofun⟩⟩
  cases z; exact n rfl
theorem At.fnH {f : Addr} {fd : FuncData} {d : Option Addr} (h : At F C σ s) (hf : σ.H f = some (.fn fd d)) : FnAt f s.heap := by
  obtain ⟨o, ho, ⟨_, _, c3⟩, _⟩ := h.get hf
  exact ⟨o, fd, ho, c3⟩
theorem noread : typeLookup (.type "function") "read" = pure none := by rw [typeLookup_type, builtinLookup_eq_fast]; kernel_rfl
noncomputable def nlOf (ch : List Nat) : Int := if ch = [10] then 1 else 0
theorem readchar_spec {l : LexIds} {text : List Nat} {pos : Nat} {line : Int} {pb : List (List Nat)} (h : At F C σ s) (hr : Rm A (n + 2)) (S : LexAt σ.H l text pos line pb) (hp : pos ≤ text.length) (hl : text.length ≤ 100000)
    (k : ∀ v s' H', er v = .str ((text.drop pos).take 1) → At F C ⟨σ.m, H'⟩ s' → LexAt H' l text (pos + ((text.drop pos).take 1).length) (line + nlOf ((text.drop pos).take 1)) pb → But [l.i.pl, l.dx] σ.H H' → R (.ok (.ret v)) s') : Cd C.w A (.call (.ref 110) ⟨[.ref l.x], []⟩) R s := by
  obtain ⟨x, dx, pbh, st, ap⟩ := S
  have st' := st
  obtain ⟨⟨fd, S1⟩, S2, ⟨qual, doc, pm, ctv, S3, S4⟩, S5, S6, S7⟩ := st'
  refine am_fn h (by kernel_rfl!) (by kernel_rfl!) (kNRead _) (by kernel_rfl!) rfl hr.dp rfl fun C' s' E hw h' => ?_
  refine wp_cons (wp_assign (wp_mcall (wp_attr (am_local 0 h' rfl rfl fun v e => ?_))))
  cases er_ref e
  refine am_getattr 1 h' x dx rfl rfl (by kernel_rfl!) rfl fun v s₁ h₁ e₁ => ?_
  cases er_ref e₁
  refine am_fnmethod 0 h₁ S1 S2 rfl rfl rfl noread fun v s₂ h₂ e₂ => ?_
  cases er_ref e₂
  refine wp_fnargs (wp_sp (am_cint h₂ fun cv s₃ h₃ ec => wp_sp0 ⟨h₃.fnH S3, wp_call ?_⟩))
  refine read_spec h₃ (hr.deeper (n := n + 1)) st hp hl ec fun v s₄ ev h₄ => am_store 1 h₄ rfl fun s₅ h₅ => ?_
  rw [ev] at h₅
  have x' := put_keep (o := .vec [.int (pos + ((text.drop pos).take 1).length : Nat)]) x (ne_of x S7 nofun)
  have dx' := put_keep (o := .vec [.int (pos + ((text.drop pos).take 1).length : Nat)]) dx ap
  have pb' := put_keep (o := .vec [.int (pos + ((text.drop pos).take 1).length : Nat)]) pbh (ne_of pbh S7 nofun)
  have st2 := st.put (pos' := pos + ((text.drop pos).take 1).length)
  refine wp_cons (wp_if (wp_tcmp (am_local 1 h₅ rfl rfl fun v e => am_cstr h₅ fun v₂ s₆ h₆ e₂ => am_seq e e₂ (am_truthy_bool ?_))))
  by_cases hn : (text.drop pos).take 1 = [10]
  · rw [if_pos (by rw [hn]; rfl)]
    refine wp_cons (wp_augattr (am_local 0 h₆ rfl rfl fun v e => ?_))
    cases er_ref e
    refine am_getattr 0 h₆ x' dx' rfl rfl (by kernel_rfl!) rfl fun ov s₇ h₇ e₇ => am_cint h₇ fun iv s₈ h₈ e₈ => am_iadd h₈ e₇ e₈ fun rv s₉ h₉ e₉ => ?_
    refine am_setattr 0 h₉ x' dx' rfl (Nat.zero_lt_succ _) (by kernel_rfl!) (by decide) fun s₁₀ h₁₀ => wp_nil ?_
    rw [e₉] at h₁₀
    refine wp_cons (wp_ret (am_local 1 h₁₀ rfl rfl fun v e => back_ret h₁₀ fun h₁₁ => k v _ _ e h₁₁ ⟨?_, ?_, ?_, ?_, ap⟩ (((But.refl _ _).put (.inl (by simp))).put (.inl (by simp)))))
    · exact put_keep x' (ne_of x' dx' nofun)
    · rw [hn]; exact hput_self _ _ _
    · exact put_keep pb' (ne_of pb' dx' nofun)
    · refine st2.keep fun a ao ha hna => put_keep ha fun z => ?_
      subst z
      rw [dx'] at ha; cases ha
      exact hna.1 _ _ (by decide) rfl
  · rw [if_neg (by intro z; exact hn (eq_of_beq z))]
    refine wp_nil ?_
    refine wp_cons (wp_ret (am_local 1 h₆ rfl rfl fun v e => back_ret h₆ fun h₁₁ => k v _ _ e h₁₁ ⟨x', ?_, pb', st2, ap⟩ ((But.refl _ _).put (.inl (by simp)))))
    unfold nlOf
    rw [if_neg hn, Int.add_zero]
    exact dx'
end
end Mine

end
section
open PySem PySem.W PyProof.Rows PySem.Calls PyProof.Rows.LCg
namespace Mine
section
variable {F : FnS} {C : Cx} {σ : St} {s : Shared} {A : Around} {R : Result → Shared → Prop} {n : Nat}
theorem At.notInt (h : At F C σ s) : interactive C.env = false := by
  have := h.env.kind
  unfold interactive
  rw [this]; rfl
theorem push_spec {l : LexIds} {text : List Nat} {pos : Nat} {line : Int} {pb : List (List Nat)} {tv : Value} {tok : List Nat} (h : At F C σ s) (hr : Rm A (n + 1)) (S : LexAt σ.H l text pos line pb) (ht : er tv = .str tok) (hl : pb.length ≤ 1000)
    (k : ∀ s', At F C (σ.put l.pb (.list ((pb ++ [tok]).map AV.str))) s' → LexAt (hput σ.H l.pb (.list ((pb ++ [tok]).map AV.str))) l text pos line (pb ++ [tok]) → R (.ok (.ret .none)) s') : Cd C.w A (.call (.ref 124) ⟨[.ref l.x, tv], []⟩) R s := by
  obtain ⟨x, dx, pbh, st, ap⟩ := S
  refine am_fn h (by kernel_rfl!) (by kernel_rfl!) (kNPush _) (by kernel_rfl!) rfl hr.dp rfl fun C' s' E hw h' => ?_
  refine wp_cons (wp_expr (wp_mcall (wp_attr (am_local 0 h' rfl rfl fun v e => ?_))) h'.notInt)
  cases er_ref e
  refine am_getattr 3 h' x dx rfl rfl (by kernel_rfl!) rfl fun v s₁ h₁ e₁ => ?_
  cases er_ref e₁
  refine am_mappend h₁ pbh (wp_bargs (wp_sp (am_local 1 h₁ rfl rfl fun v e => wp_sp0 (am_append h₁ pbh (by simp; omega) fun s₂ h₂ => wp_nil (back_next h₂ fun h₃ => ?_)))))
  rw [e, ht] at h₃
  have e1 : pb.map AV.str ++ [AV.str tok] = (pb ++ [tok]).map AV.str := by simp
  rw [e1] at h₃
  refine k _ h₃ ⟨put_keep x (ne_of x pbh nofun), put_keep dx (ne_of dx pbh nofun), hput_self _ _ _, st.keep fun a ao ha hna => put_keep ha fun z => ?_, ap⟩
  subst z
  rw [pbh] at ha; cases ha
  exact hna.2.1 _ rfl
end
end Mine

end
section
open PySem PySem.W PyProof.Rows PySem.Calls PyProof.Rows.LCg
namespace Mine
noncomputable def isWh (c : Nat) : Bool := decide (c ∈ whites)
noncomputable def quoted : List Nat → List Nat × List Nat
  | [] => ([], [])
  | [c] => if c = 34 then ([], []) else if c = 92 then ([], []) else ([c], [])
  | c :: d :: r => if c = 34 then ([], d :: r) else if c = 92 then (d :: (quoted r).1, (quoted r).2) else (c :: (quoted (d :: r)).1, (quoted (d :: r)).2)
noncomputable def bareT : List Nat → List Nat × List Nat
  | [] => ([], [])
  | [c] => if isWh c then ([], []) else if c = 92 then ([], []) else ([c], [])
  | c :: d :: r => if isWh c then ([], d :: r) else if c = 92 then (d :: (bareT r).1, (bareT r).2) else (c :: (bareT (d :: r)).1, (bareT (d :: r)).2)
noncomputable def token : List Nat → List Nat × List Nat
  | [] => ([], [])
  | c :: r => if isWh c then token r else if c = 34 then quoted r else if c = 92 then (match r with | [] => ([], []) | d :: r => (d :: (bareT r).1, (bareT r).2)) else (c :: (bareT r).1, (bareT r).2)

/-- the lexer, `rest` left to read; its line is one more than the line ends behind it -/
noncomputable def LexR (H : Addr → Option AO) (l : LexIds) (text rest : List Nat) (pb : List (List Nat)) : Prop := ∃ pre, text = pre ++ rest ∧ LexAt H l text pre.length (1 + (pre.count 10 : Nat)) pb
section
variable {F : FnS} {C : Cx} {σ : St} {s : Shared} {A : Around} {R : Result → Shared → Prop} {n : Nat}
theorem read_R {l : LexIds} {text rest : List Nat} {pb : List (List Nat)} (h : At F C σ s) (hr : Rm A (n + 2)) (S : LexR σ.H l text rest pb) (hl : text.length ≤ 100000)
    (k : ∀ v s' H', er v = .str (rest.take 1) → At F C ⟨σ.m, H'⟩ s' → LexR H' l text (rest.drop 1) pb → But [l.i.pl, l.dx] σ.H H' → R (.ok (.ret v)) s') : Cd C.w A (.call (.ref 110) ⟨[.ref l.x], []⟩) R s := by
  obtain ⟨pre, et, S⟩ := S
  have ed : text.drop pre.length = rest := by rw [et]; simp
  refine readchar_spec h hr S (by rw [et]; simp) hl fun v s' H' ev h' S' b => ?_
  rw [ed] at ev S'
  refine k v s' H' ev h' ⟨pre ++ rest.take 1, by rw [List.append_assoc, List.take_append_drop]; exact et, ?_⟩ b
  have e1 : (pre ++ rest.take 1).length = pre.length + (rest.take 1).length := List.length_append
  have e2 : ((1 : Int) + ((pre ++ rest.take 1).count 10 : Nat)) = 1 + (pre.count 10 : Nat) + nlOf (rest.take 1) := by
    rw [List.count_append]
    cases rest with
    | nil => simp [nlOf]
    | cons c r =>
      unfold nlOf
      by_cases hc : c = 10
      · subst hc; simp; omega
      · have : ¬ ([c] = [10]) := by simpa using hc
        simp [hc]
  rw [e1, e2]; exact S'
end
end Mine

end
section
open PySem PySem.W PyProof.Rows PySem.Calls PyProof.Rows.LCg
namespace Mine
theorem Rm.in1 {A : Around} {n : Nat} (h : Rm A (n + 1)) : Rm A.in1 n := ⟨by have := h.depth; show A.depth + n < 1000; omega, by have := h.units; show A.units + 1 + 8 * n < 9900; omega, h.hand⟩
noncomputable def fTok : FnS := ⟨["self", "token", "fiter", "ch"], [], [], ["iter"]⟩
structure TokH (l : LexIds) (it m : Addr) (H0 : Addr → Option AO) (text rest : List Nat) (alive : Bool) (H' : Addr → Option AO) : Prop where
  L : LexR H' l text rest []
  it : H' it = some (.it (if alive then .call m else .dead))
  m : H' m = some (.meth 110 l.x)
  b : But [l.i.pl, l.dx] H0 H'
noncomputable abbrev tm (l : LexIds) (it : Addr) (tk : List Nat) (xch : Option AV) : List (Option AV) := [some (.ref l.x), some (.str tk), some (.ref it), xch]
section
variable {C : Cx} {s : Shared} {A : Around} {R : Result → Shared → Prop} {n : Nat} {l : LexIds} {it m : Addr} {H0 H' : Addr → Option AO} {text rest tk : List Nat} {xch : Option AV} {E : Value → Shared → Prop}
theorem LexR.parts {H : Addr → Option AO} {pb : List (List Nat)} (S : LexR H l text rest pb) : H l.x = some (.inst 127 l.dx) ∧ (∃ line, H l.dx = some (.attrs lNames [.int line, .ref l.i.st, .str whites, .ref l.pb])) ∧ (∃ p : Nat, H l.i.pl = some (.vec [.int p])) ∧ H l.pb = some (.list (pb.map AV.str)) := by
  obtain ⟨pre, _, S⟩ := S
  obtain ⟨x, dx, pbh, st, ap⟩ := S
  obtain ⟨_, _, _, _, _, S7⟩ := st
  exact ⟨x, ⟨_, dx⟩, ⟨_, S7⟩, pbh⟩
theorem LexR.putIt {H : Addr → Option AO} {pb : List (List Nat)} (S : LexR H l text rest pb) {a : Addr} {k k' : ItK} (ha : H a = some (.it k)) : LexR (hput H a (.it k')) l text rest pb := by
  obtain ⟨pre, et, x, dx, pbh, st, ap⟩ := S
  exact ⟨pre, et, put_keep x (ne_of x ha nofun), put_keep dx (ne_of dx ha nofun), put_keep pbh (ne_of pbh ha nofun), by
    obtain ⟨⟨fd, S1⟩, S2, ⟨qual, doc, pm, ctv, S3, S4⟩, S5, S6, S7⟩ := st
    exact ⟨⟨fd, put_keep S1 (ne_of S1 ha nofun)⟩, put_keep S2 (ne_of S2 ha nofun), ⟨qual, doc, pm, ctv, put_keep S3 (ne_of S3 ha nofun), put_keep S4 (ne_of S4 ha nofun)⟩, put_keep S5 (ne_of S5 ha nofun), put_keep S6 (ne_of S6 ha nofun), put_keep S7 (ne_of S7 ha nofun)⟩, ap⟩
/-- a new object does not touch the lexer -/
theorem LexR.putNew {H : Addr → Option AO} {pb : List (List Nat)} (S : LexR H l text rest pb) {a : Addr} {o : AO} (ha : H a = none) : LexR (hput H a o) l text rest pb := by
  obtain ⟨pre, et, x, dx, pbh, st, ap⟩ := S
  have kk : ∀ {b ao}, H b = some ao → hput H a o b = some ao := fun {b ao} e => put_keep e fun z => by rw [z, ha] at e; cases e
  exact ⟨pre, et, kk x, kk dx, kk pbh, st.keep fun _ _ e _ => kk e, ap⟩
theorem tok_step {H'' : Addr → Option AO} {rest' : List Nat} {al : Bool} (T' : TokH l it m H0 text rest al H') (L' : LexR H'' l text rest' []) (b' : But [l.i.pl, l.dx] H' H'') : TokH l it m H0 text rest' al H'' := by
  obtain ⟨_, ⟨_, hdx⟩, ⟨_, hpl⟩, _⟩ := T'.L.parts
  refine ⟨L', b' _ _ (fun z => ?_) T'.it, b' _ _ (fun z => ?_) T'.m, fun a ao na ha => b' a ao na (T'.b a ao na ha)⟩
  · rcases List.mem_cons.mp z with z | z
    · exact ne_of T'.it hpl nofun z
    · exact ne_of T'.it hdx nofun (List.mem_singleton.mp z)
  · rcases List.mem_cons.mp z with z | z
    · exact ne_of T'.m hpl nofun z
    · exact ne_of T'.m hdx nofun (List.mem_singleton.mp z)
theorem tok_next {Q : Option Value → Shared → Prop} (h : At fTok C ⟨tm l it tk xch, H'⟩ s) (hr : Rm A (n + 3)) (T : TokH l it m H0 text rest true H') (hi0 : H0 it = none) (hl : text.length ≤ 100000)
    (k0 : rest = [] → ∀ H'' s', At fTok C ⟨tm l it tk xch, H''⟩ s' → TokH l it m H0 text [] false H'' → Q none s')
    (k1 : ∀ c r, rest = c :: r → ∀ H'' s' v, er v = .str [c] → At fTok C ⟨tm l it tk xch, H''⟩ s' → TokH l it m H0 text r true H'' → Q (some v) s') : Wp C.w A (pyNext (.ref it)) Q E s := by
  refine am_next_call h hr.hand T.it T.m (by kernel_rfl!) (read_R h hr.in1 T.L hl fun v s' H'' ev h' L' b' => ?_)
  have T' := tok_step T L' b'
  refine ⟨_, _, h', ev, T'.it, T'.m, fun e s'' h'' => ?_, fun e => ?_⟩
  · cases rest with
    | cons c r => simp at e
    | nil => exact k0 rfl _ _ h'' ⟨T'.L.putIt T'.it, hput_self _ _ _, put_keep T'.m (ne_of T'.m T'.it nofun), T'.b.put (.inr hi0)⟩
  · cases rest with
    | nil => exact absurd rfl e
    | cons c r => exact k1 c r rfl _ _ v (by simpa using ev) h' T'
theorem tok_read {p1 p2 p3 : Pos} {pl : Sem Bool} {Q : Value → Shared → Prop} (h : At fTok C ⟨tm l it tk xch, H'⟩ s) (hr : Rm A (n + 2)) (T : TokH l it m H0 text rest true H') (hl : text.length ≤ 100000)
    (k : ∀ H'' s' v, er v = .str (rest.take 1) → At fTok C ⟨tm l it tk xch, H''⟩ s' → TokH l it m H0 text (rest.drop 1) true H'' → Q v s')
    (he : eval (.Call (.Attribute (.Name "self" p1) "_read_char" p2) [] [] p3) C.env = (do
      let ov ← eval (.Name "self" p1) C.env
      standAt p2.atName
      let (f, first) ← holding [ov] (getMethod ov "_read_char" pl)
      callWith p3 f first (backTo p3 (starEach [] C.env)) []) := by rfl) :
    Wp C.w A (eval (.Call (.Attribute (.Name "self" p1) "_read_char" p2) [] [] p3) C.env) Q E s := by
  obtain ⟨hx, ⟨_, hdx⟩, _, _⟩ := T.L.parts
  refine wp_mcall (am_local 0 h rfl rfl fun v e => ?_) he
  cases er_ref e
  refine am_method (f := 110) h hx hdx (by decide) (by kernel_rfl!) (wp_fnargs0 (h.fnAt (by kernel_rfl!)) (wp_call ?_))
  exact read_R h hr T.L hl fun v s' H'' ev h' L' b' => k H'' s' v ev h' (tok_step T L' b')
end
end Mine

end
section
open PySem PySem.W PyProof.Rows PySem.Calls PyProof.Rows.LCg
namespace Mine
noncomputable def forB : Stmt → List Stmt
  | .For _ _ b _ _ => b
  | _ => []
noncomputable def forT : Stmt → Expr
  | .For t _ _ _ _ => t
  | _ => .Constant .none 0 ⟨0, 0, 0, 0⟩
noncomputable def ifB : Stmt → List Stmt
  | .If _ b _ _ => b
  | _ => []
noncomputable def ifE : Stmt → List Stmt
  | .If _ _ b _ => b
  | _ => []
noncomputable def stOut : Stmt := nth (bN 2) 3
noncomputable def stQ : Stmt := nth (ifB (nth (forB stOut) 1)) 0
noncomputable def stB : Stmt := nth (ifE (nth (forB stOut) 1)) 2
section
variable {C : Cx} {s : Shared} {A : Around} {R : Result → Shared → Prop} {n : Nat} {l : LexIds} {it m : Addr} {H0 H' : Addr → Option AO} {text rest tk : List Nat} {xch : Option AV} {E : Value → Shared → Prop}
theorem quoted_nil : quoted [] = ([], []) := rfl
theorem quoted_end (r : List Nat) : quoted (34 :: r) = ([], r) := by cases r <;> simp [quoted]
theorem quoted_esc (r : List Nat) : quoted (92 :: r) = (r.take 1 ++ (quoted (r.drop 1)).1, (quoted (r.drop 1)).2) := by
  cases r <;> simp [quoted]
theorem quoted_else (c : Nat) (r : List Nat) (h1 : c ≠ 34) (h2 : c ≠ 92) : quoted (c :: r) = (c :: (quoted r).1, (quoted r).2) := by
  cases r <;> simp [quoted, h1, h2]
theorem bare_end (c : Nat) (r : List Nat) (h : isWh c = true) : bareT (c :: r) = ([], r) := by cases r <;> simp [bareT, h]
theorem bare_esc (r : List Nat) : bareT (92 :: r) = (r.take 1 ++ (bareT (r.drop 1)).1, (bareT (r.drop 1)).2) := by
  have : isWh 92 = false := by decide
  cases r <;> simp [bareT, this]
theorem bare_else (c : Nat) (r : List Nat) (h1 : isWh c = false) (h2 : c ≠ 92) : bareT (c :: r) = (c :: (bareT r).1, (bareT r).2) := by
  cases r <;> simp [bareT, h1, h2]
/-- `token += ch` -/
theorem tok_grow {p1 p2 p3 : Pos} {x : List Nat} {Q : Flow → Shared → Prop} (h : At fTok C ⟨tm l it tk (some (.str x)), H'⟩ s) (hz : tk.length + x.length ≤ 1000000)
    (k : ∀ s', At fTok C ⟨tm l it (tk ++ x) (some (.str x)), H'⟩ s' → Q .next s') : Wp C.w A (exec (.AugAssign (.Name "token" p1) .Add (.Name "ch" p2) p3) C.env) Q E s :=
  wp_aug (am_ldlocal 1 h rfl rfl fun v e => am_local 3 h rfl rfl fun v₂ e₂ => am_isadd h e e₂ hz fun v₃ s₃ h₃ e₃ => am_store 1 h₃ rfl fun s₄ h₄ => k s₄ (by rw [e₃] at h₄; exact h₄))
theorem quoted_loop (h : At fTok C ⟨tm l it tk xch, H'⟩ s) (hr : Rm A (n + 3)) (T : TokH l it m H0 text rest true H') (hi0 : H0 it = none) (hl : text.length ≤ 100000) (hz : tk.length + rest.length ≤ 100000)
    (kret : ∀ H'' s' v, At fTok C ⟨[some (.ref l.x), some (.str (tk ++ (quoted rest).1)), some (.ref it)], H''⟩ s' → er v = .str (tk ++ (quoted rest).1) → TokH l it m H0 text (quoted rest).2 true H'' → R (.ok (.ret v)) s')
    (kend : ∀ xch H'' s', At fTok C ⟨tm l it (tk ++ (quoted rest).1) xch, H''⟩ s' → (quoted rest).2 = [] → TokH l it m H0 text [] false H'' → R (.ok .next) s') :
    Cd C.w A (.forLoop (forT stQ) (.ref it) (forB stQ) [] C.env) R s := by
  refine cd_for (F := fTok) (fun k σ => ∃ tk' rest' xch' H₁, k = rest'.length ∧ σ = ⟨tm l it tk' xch', H₁⟩ ∧ TokH l it m H0 text rest' true H₁ ∧ tk'.length + rest'.length ≤ 100000 ∧ tk' ++ (quoted rest').1 = tk ++ (quoted rest).1 ∧ (quoted rest').2 = (quoted rest).2)
    (fun k σ s hI h₁ => ?_) rest.length ⟨tk, rest, xch, H', rfl, rfl, T, hz, rfl, rfl⟩ h
  obtain ⟨tk', rest', xch', H₁, rfl, rfl, T₁, hz', e1, e2⟩ := hI
  refine tok_next h₁ hr T₁ hi0 hl (fun er0 H₂ s₂ h₂ T₂ => ?_) fun c r er0 H₂ s₂ v ev h₂ T₂ => ?_
  · subst er0
    rw [← e1, ← e2] at kend
    simp only [quoted_nil, List.append_nil] at kend
    exact kend _ _ _ h₂ trivial T₂
  · subst er0
    simp only [List.length_cons] at hz'
    refine wp_asgn (am_store 3 h₂ rfl fun s₃ h₃ => ?_)
    rw [ev] at h₃
    have h₃' : At fTok C ⟨tm l it tk' (some (.str [c])), H₂⟩ s₃ := h₃
    refine wp_cons (wp_if (wp_tcmp (am_local 3 h₃' rfl rfl fun v₁ e₁ => am_cstr h₃' fun v₂ s₄ h₄ e₄ => am_seq e₁ e₄ (am_truthy_bool ?_))))
    have eq1 : ∀ d : Nat, ([c] == [d]) = decide (c = d) := fun d => by
      by_cases z : c = d
      · subst z; simp
      · simp [z]
    rw [show (Str.ofString "\"").cps.toList = [34] from rfl, eq1]
    by_cases c1 : c = 34
    · subst c1
      rw [if_pos (by decide)]
      refine wp_cons (wp_ret (am_local 1 h₄ rfl rfl fun v₅ e₅ => ?_))
      rw [quoted_end] at e1 e2
      rw [← e1, ← e2] at kret
      simp only [List.append_nil] at kret
      refine kret _ _ _ (h₄.weak fun i av q => ?_) e₅ T₂
      match i, q with
      | 0, q => exact q
      | 1, q => exact q
      | 2, q => exact q
    · rw [if_neg (by simpa using c1)]
      refine wp_cons (wp_if (wp_tcmp (am_local 3 h₄ rfl rfl fun v₁ e₁ => am_cstr h₄ fun v₂ s₅ h₅ e₅ => am_seq e₁ e₅ (am_truthy_bool ?_))))
      rw [show (Str.ofString "\\").cps.toList = [92] from rfl, eq1]
      by_cases c2 : c = 92
      · subst c2
        rw [if_pos (by decide)]
        refine wp_cons (wp_assign (tok_read (n := n + 1) h₅ hr T₂ hl fun H₃ s₆ v₆ e₆ h₆ T₃ => am_store 3 h₆ rfl fun s₇ h₇ => ?_))
        rw [e₆] at h₇
        have h₇' : At fTok C ⟨tm l it tk' (some (.str (r.take 1))), H₃⟩ s₇ := h₇
        refine wp_nil (wp_nil (wp_cons (tok_grow h₇' (by rw [List.length_take]; omega) fun s₈ h₈ => wp_nil ⟨_, _, ?_, ⟨_, _, _, _, rfl, rfl, T₃, ?_, ?_, ?_⟩, h₈⟩)))
        · simp only [List.length_drop, List.length_cons]; omega
        · simp only [List.length_append, List.length_take, List.length_drop]; omega
        · rw [← e1, quoted_esc]; simp
        · rw [← e2, quoted_esc]
      · rw [if_neg (by simpa using c2)]
        refine wp_nil (wp_nil (wp_cons (tok_grow h₅ (by simp; omega) fun s₈ h₈ => wp_nil ⟨_, _, ?_, ⟨_, _, _, _, rfl, rfl, T₂, ?_, ?_, ?_⟩, h₈⟩)))
        · simp
        · simp; omega
        · rw [← e1, quoted_else c r c1 c2]; simp
        · rw [← e2, quoted_else c r c1 c2]
theorem bare_loop (h : At fTok C ⟨tm l it tk xch, H'⟩ s) (hr : Rm A (n + 3)) (T : TokH l it m H0 text rest true H') (hi0 : H0 it = none) (hl : text.length ≤ 100000) (hz : tk.length + rest.length ≤ 100000)
    (kret : ∀ H'' s' v, At fTok C ⟨[some (.ref l.x), some (.str (tk ++ (bareT rest).1)), some (.ref it)], H''⟩ s' → er v = .str (tk ++ (bareT rest).1) → TokH l it m H0 text (bareT rest).2 true H'' → R (.ok (.ret v)) s')
    (kend : ∀ xch H'' s', At fTok C ⟨tm l it (tk ++ (bareT rest).1) xch, H''⟩ s' → (bareT rest).2 = [] → TokH l it m H0 text [] false H'' → R (.ok .next) s') :
    Cd C.w A (.forLoop (forT stB) (.ref it) (forB stB) [] C.env) R s := by
  refine cd_for (F := fTok) (fun k σ => ∃ tk' rest' xch' H₁, k = rest'.length ∧ σ = ⟨tm l it tk' xch', H₁⟩ ∧ TokH l it m H0 text rest' true H₁ ∧ tk'.length + rest'.length ≤ 100000 ∧ tk' ++ (bareT rest').1 = tk ++ (bareT rest).1 ∧ (bareT rest').2 = (bareT rest).2)
    (fun k σ s hI h₁ => ?_) rest.length ⟨tk, rest, xch, H', rfl, rfl, T, hz, rfl, rfl⟩ h
  obtain ⟨tk', rest', xch', H₁, rfl, rfl, T₁, hz', e1, e2⟩ := hI
  refine tok_next h₁ hr T₁ hi0 hl (fun er0 H₂ s₂ h₂ T₂ => ?_) fun c r er0 H₂ s₂ v ev h₂ T₂ => ?_
  · subst er0
    rw [← e1, ← e2] at kend
    simp only [show bareT [] = ([], []) from rfl, List.append_nil] at kend
    exact kend _ _ _ h₂ trivial T₂
  · subst er0
    simp only [List.length_cons] at hz'
    refine wp_asgn (am_store 3 h₂ rfl fun s₃ h₃ => ?_)
    rw [ev] at h₃
    have h₃' : At fTok C ⟨tm l it tk' (some (.str [c])), H₂⟩ s₃ := h₃
    obtain ⟨hx, ⟨_, hdx⟩, _, _⟩ := T₂.L.parts
    refine wp_cons (wp_if (wp_tcmp (am_local 3 h₃' rfl rfl fun v₁ e₁ => wp_attr (am_local 0 h₃' rfl rfl fun v₂ e₂ => ?_))))
    cases er_ref e₂
    refine am_getattr 2 h₃' hx hdx rfl rfl (by kernel_rfl!) rfl fun v₃ s₄ h₄ e₄ => am_in1 e₁ e₄ (am_truthy_bool ?_)
    have eq1 : ∀ d : Nat, ([c] == [d]) = decide (c = d) := fun d => by
      by_cases z : c = d
      · subst z; simp
      · simp [z]
    by_cases c1 : isWh c = true
    · rw [if_pos (show decide (c ∈ whites) = true from c1)]
      refine wp_cons (wp_ret (am_local 1 h₄ rfl rfl fun v₅ e₅ => ?_))
      rw [bare_end c r c1] at e1 e2
      rw [← e1, ← e2] at kret
      simp only [List.append_nil] at kret
      refine kret _ _ _ (h₄.weak fun i av q => ?_) e₅ T₂
      match i, q with
      | 0, q => exact q
      | 1, q => exact q
      | 2, q => exact q
    · have c1' : isWh c = false := by simpa using c1
      rw [if_neg (show ¬ decide (c ∈ whites) = true from c1)]
      refine wp_cons (wp_if (wp_tcmp (am_local 3 h₄ rfl rfl fun v₁ e₁ => am_cstr h₄ fun v₂ s₅ h₅ e₅ => am_seq e₁ e₅ (am_truthy_bool ?_))))
      rw [show (Str.ofString "\\").cps.toList = [92] from rfl, eq1]
      by_cases c2 : c = 92
      · subst c2
        rw [if_pos (by decide)]
        refine wp_cons (wp_assign (tok_read (n := n + 1) h₅ hr T₂ hl fun H₃ s₆ v₆ e₆ h₆ T₃ => am_store 3 h₆ rfl fun s₇ h₇ => ?_))
        rw [e₆] at h₇
        have h₇' : At fTok C ⟨tm l it tk' (some (.str (r.take 1))), H₃⟩ s₇ := h₇
        refine wp_nil (wp_nil (wp_cons (tok_grow h₇' (by rw [List.length_take]; omega) fun s₈ h₈ => wp_nil ⟨_, _, ?_, ⟨_, _, _, _, rfl, rfl, T₃, ?_, ?_, ?_⟩, h₈⟩)))
        · simp only [List.length_drop, List.length_cons]; omega
        · simp only [List.length_append, List.length_take, List.length_drop]; omega
        · rw [← e1, bare_esc]; simp
        · rw [← e2, bare_esc]
      · rw [if_neg (by simpa using c2)]
        refine wp_nil (wp_nil (wp_cons (tok_grow h₅ (by simp; omega) fun s₈ h₈ => wp_nil ⟨_, _, ?_, ⟨_, _, _, _, rfl, rfl, T₂, ?_, ?_, ?_⟩, h₈⟩)))
        · simp
        · simp; omega
        · rw [← e1, bare_else c r c1' c2]; simp
        · rw [← e2, bare_else c r c1' c2]
end
end Mine

end
section
open PySem PySem.W PyProof.Rows PySem.Calls PyProof.Rows.LCg
namespace Mine
theorem kTok (w : World) : FnK fTok ["self"] (bN 2) (fdK w 117) :=
  .of1 (by kernel_rfl!) (by kernel_rfl!) (by kernel_rfl!) (by kernel_rfl!) fun a => by kernel_rfl!
section
variable {F : FnS} {C : Cx} {σ : St} {s : Shared} {A : Around} {R : Result → Shared → Prop} {n : Nat} {l : LexIds} {it m : Addr} {H0 H' : Addr → Option AO} {text rest tk : List Nat} {xch : Option AV} {E : Value → Shared → Prop}
theorem token_white (c : Nat) (r : List Nat) (h : isWh c = true) : token (c :: r) = token r := by simp [token, h]
theorem token_quote (r : List Nat) : token (34 :: r) = quoted r := by
  have : isWh 34 = false := by decide
  simp [token, this]
theorem token_esc (r : List Nat) : token (92 :: r) = (r.take 1 ++ (bareT (r.drop 1)).1, (bareT (r.drop 1)).2) := by
  have : isWh 92 = false := by decide
  cases r <;> simp [token, this, bareT]
theorem token_else (c : Nat) (r : List Nat) (h1 : isWh c = false) (h2 : c ≠ 34) (h3 : c ≠ 92) : token (c :: r) = (c :: (bareT r).1, (bareT r).2) := by
  simp [token, h1, h2, h3]
/-- what comes behind the last row but one of a turn -/
noncomputable def nextThen (C : Cx) (A : Around) (Q : Flow → Shared → Prop) (f : Flow) (s : Shared) : Prop := match f with
  | .next => Wp C.w A (execs [] C.env) Q (fun _ _ => False) s
  | f => Q f s
noncomputable def OutI (l : LexIds) (it m : Addr) (H0 : Addr → Option AO) (text rest : List Nat) (k : Nat) (σ : St) : Prop :=
  (∃ rest' xch' H₁, k = rest'.length + 1 ∧ σ = ⟨tm l it [] xch', H₁⟩ ∧ TokH l it m H0 text rest' true H₁ ∧ rest'.length ≤ 90000 ∧ token rest' = token rest) ∨
      (∃ xch' H₁, σ = ⟨tm l it (token rest).1 xch', H₁⟩ ∧ TokH l it m H0 text [] false H₁ ∧ (token rest).2 = [])
/-- the loop over the signs ahead of a token -/
theorem outer_loop (h : At fTok C ⟨tm l it [] xch, H'⟩ s) (hr : Rm A (n + 3)) (T : TokH l it m H0 text rest true H') (hi0 : H0 it = none) (hl : text.length ≤ 100000) (hz : rest.length ≤ 90000)
    (kret : ∀ H'' s' v, At fTok C ⟨[some (.ref l.x), some (.str (token rest).1), some (.ref it)], H''⟩ s' → er v = .str (token rest).1 → TokH l it m H0 text (token rest).2 true H'' → R (.ok (.ret v)) s')
    (kend : ∀ xch H'' s', At fTok C ⟨tm l it (token rest).1 xch, H''⟩ s' → (token rest).2 = [] → TokH l it m H0 text [] false H'' → R (.ok .next) s') :
    Cd C.w A (.forLoop (forT stOut) (.ref it) (forB stOut) [] C.env) R s := by
  refine cd_for (F := fTok) (OutI l it m H0 text rest)
    (fun k σ s hI h₁ => ?_) (rest.length + 1) (.inl ⟨rest, xch, H', rfl, rfl, T, hz, rfl⟩) h
  rcases hI with ⟨rest', xch', H₁, rfl, rfl, T₁, hz', e1⟩ | ⟨xch', H₁, rfl, T₁, e2⟩
  case inr => exact am_next_dead h₁ hr.hand T₁.it fun s₂ h₂ => kend _ _ _ h₂ e2 T₁
  refine tok_next h₁ hr T₁ hi0 hl (fun er0 H₂ s₂ h₂ T₂ => ?_) fun c r er0 H₂ s₂ v ev h₂ T₂ => ?_
  · subst er0
    rw [← e1] at kend
    exact kend _ _ _ h₂ rfl T₂
  · subst er0
    simp only [List.length_cons] at hz'
    refine wp_asgn (am_store 3 h₂ rfl fun s₃ h₃ => ?_)
    rw [ev] at h₃
    have h₃' : At fTok C ⟨tm l it [] (some (.str [c])), H₂⟩ s₃ := h₃
    obtain ⟨hx, ⟨_, hdx⟩, _, _⟩ := T₂.L.parts
    refine wp_cons (wp_if (wp_tcmp (am_local 3 h₃' rfl rfl fun v₁ e₁ => wp_attr (am_local 0 h₃' rfl rfl fun v₂ e₂ => ?_))))
    cases er_ref e₂
    refine am_getattr 2 h₃' hx hdx rfl rfl (by kernel_rfl!) rfl fun v₃ s₄ h₄ e₄ => am_in1 e₁ e₄ (am_truthy_bool ?_)
    have eq1 : ∀ d : Nat, ([c] == [d]) = decide (c = d) := fun d => by
      by_cases z : c = d
      · subst z; simp
      · simp [z]
    by_cases c1 : isWh c = true
    · rw [if_pos (show decide (c ∈ whites) = true from c1)]
      refine wp_cons (wp_cont ⟨r.length + 1, _, by simp, .inl ⟨r, _, _, rfl, rfl, T₂, by omega, ?_⟩, h₄⟩)
      rw [← e1, token_white c r c1]
    · have c1' : isWh c = false := by simpa using c1
      rw [if_neg (show ¬ decide (c ∈ whites) = true from c1)]
      refine wp_nil (wp_cons (wp_if (wp_tcmp (am_local 3 h₄ rfl rfl fun v₁ e₁ => am_cstr h₄ fun v₂ s₅ h₅ e₅ => am_seq e₁ e₅ (am_truthy_bool ?_)))))
      rw [show (Str.ofString "\"").cps.toList = [34] from rfl, eq1]
      -- behind the inner loop, dead
      have dead : ∀ xch H'' s', At fTok C ⟨tm l it (token rest).1 xch, H''⟩ s' → (token rest).2 = [] → TokH l it m H0 text [] false H'' → ∃ m_1 σ', m_1 < r.length + 1 + 1 ∧ OutI l it m H0 text rest m_1 σ' ∧ At fTok C σ' s' :=
        fun xch H'' s' h' e T' => ⟨0, _, by omega, .inr ⟨_, _, rfl, T', e⟩, h'⟩
      by_cases c2 : c = 34
      · subst c2
        rw [if_pos (by decide)]
        rw [token_quote] at e1
        refine wp_cons (wp_for (am_local 2 h₅ rfl rfl fun v₆ e₆ => ?_))
        cases er_ref e₆
        refine am_iter_ci (m := m) h₅ T₂.it (.inl rfl) ?_
        refine quoted_loop h₅ hr T₂ hi0 hl (by simp; omega) (fun H'' s' v h' ev' T' => ?_) fun xch H'' s' h' e T' => ?_
        · rw [List.nil_append, e1] at h' ev'
          rw [e1] at T'
          exact kret _ _ _ h' ev' T'
        · rw [List.nil_append, e1] at h'
          rw [e1] at e
          exact wp_nil (wp_nil (dead _ _ _ h' e T'))
      · rw [if_neg (by simpa using c2)]
        refine wp_cons (wp_if (wp_tcmp (am_local 3 h₅ rfl rfl fun v₁ e₁ => am_cstr h₅ fun v₂ s₆ h₆ e₆ => am_seq e₁ e₆ (am_truthy_bool ?_))))
        rw [show (Str.ofString "\\").cps.toList = [92] from rfl, eq1]
        -- the rest of a bare word
        have bare : ∀ x r' H₃ s, At fTok C ⟨tm l it [] (some (.str x)), H₃⟩ s → TokH l it m H0 text r' true H₃ → x.length + r'.length ≤ 90001 → token rest = (x ++ (bareT r').1, (bareT r').2) →
            Wp C.w A (execs ((ifE (nth (forB stOut) 1)).drop 1) C.env) (nextThen C A (LoopEnd fTok C (OutI l it m H0 text rest) (r.length + 1 + 1) R)) (fun _ _ => False) s := fun x r' H₃ s g T' hz' et => by
          have et1 : x ++ (bareT r').1 = (token rest).1 := by rw [et]
          have et2 : (bareT r').2 = (token rest).2 := by rw [et]
          refine wp_cons (tok_grow g (by simp; omega) fun s₇ g₇ => ?_)
          refine wp_cons (wp_for (am_local 2 g₇ rfl rfl fun v₆ e₆ => ?_))
          cases er_ref e₆
          refine am_iter_ci (m := m) g₇ T'.it (.inl rfl) ?_
          refine bare_loop g₇ hr T' hi0 hl (by simp; omega) (fun H'' s' v h' ev' T' => ?_) fun xch H'' s' h' e T' => ?_
          · rw [List.nil_append, et1] at h' ev'
            rw [et2] at T'
            exact kret _ _ _ h' ev' T'
          · rw [List.nil_append, et1] at h'
            rw [et2] at e
            exact wp_nil (wp_nil (dead _ _ _ h' e T'))
        by_cases c3 : c = 92
        · subst c3
          rw [if_pos (by decide)]
          refine wp_cons (wp_assign (tok_read (n := n + 1) h₆ hr T₂ hl fun H₃ s₇ v₇ e₇ h₇ T₃ => am_store 3 h₇ rfl fun s₈ h₈ => ?_))
          rw [e₇] at h₈
          refine wp_nil (bare _ _ _ _ h₈ T₃ ?_ ?_)
          · simp only [List.length_take, List.length_drop]; omega
          · rw [← e1, token_esc]
        · rw [if_neg (by simpa using c3)]
          refine wp_nil (bare _ _ _ _ h₆ T₂ ?_ ?_)
          · simp; omega
          · rw [← e1, token_else c r c1' c2 c3]; rfl
/-- a token is read -/
theorem token_spec (h : At F C σ s) (hr : Rm A (n + 4)) (S : LexR σ.H l text rest []) (hl : text.length ≤ 90000)
    (k : ∀ v s' H', er v = .str (token rest).1 → At F C ⟨σ.m, H'⟩ s' → LexR H' l text (token rest).2 [] → But [l.i.pl, l.dx] σ.H H' → R (.ok (.ret v)) s') : Cd C.w A (.call (.ref 117) ⟨[.ref l.x], []⟩) R s := by
  obtain ⟨hx, ⟨_, hdx⟩, _, hpb⟩ := S.parts
  have hrl : rest.length ≤ text.length := by obtain ⟨pre, e, _⟩ := S; rw [e]; simp
  refine am_fn h (by kernel_rfl!) (by kernel_rfl!) (kTok _) (by kernel_rfl!) rfl hr.dp rfl fun C' s' E hw h' => ?_
  refine wp_cons (wp_if (wp_tplain (wp_attr (am_local 0 h' rfl rfl fun v e => ?_))))
  cases er_ref e
  refine am_getattr 3 h' hx hdx rfl rfl (by kernel_rfl!) rfl fun v s₁ h₁ e₁ => ?_
  cases er_ref e₁
  refine am_truthy_list h₁ hpb (by simp) fun s₂ h₂ => ?_
  rw [if_neg (by decide)]
  refine wp_nil (wp_cons (wp_assign (am_cstr h₂ fun v s₃ h₃ e₃ => am_store 1 h₃ rfl fun s₄ h₄ => ?_)))
  rw [e₃] at h₄
  refine wp_cons (wp_assign (wp_callx (am_bltn (v := .builtin "iter") 0 h₄ rfl (by kernel_rfl!) (by kernel_rfl!) (by decide) (wp_bargs (wp_sp (wp_attr (am_local 0 h₄ rfl rfl fun v e => ?_)))))))
  cases er_ref e
  refine am_bound (f := 110) h₄ hx hdx (by decide) (by kernel_rfl!) fun m s₅ hm h₅ => wp_sp (am_cstr h₅ fun v s₆ h₆ e₆ => wp_sp0 (am_iter2 h₆ (hput_self _ _ _) e₆ fun it s₇ hit h₇ => am_store 2 h₇ rfl fun s₈ h₈ => ?_))
  have hit0 : σ.H it = none := ((Kp.refl σ.H).new hm).no hit
  have T : TokH l it m σ.H text rest true (hput (hput σ.H m (.meth 110 l.x)) it (.it (.call m))) := by
    refine ⟨(S.putNew hm).putNew hit, hput_self _ _ _, ?_, ((But.refl _ _).put (.inr hm)).put (.inr hit0)⟩
    refine put_keep (hput_self _ _ _) fun z => ?_
    subst z
    have : hput σ.H m (.meth 110 l.x) m = none := hit
    rw [hput_self] at this; cases this
  refine wp_cons (wp_for (am_local 2 h₈ rfl rfl fun v e => ?_))
  cases er_ref e
  refine am_iter_ci (m := m) h₈ T.it (.inl rfl) ?_
  have h₈' : At fTok C' ⟨tm l it [] none, hput (hput σ.H m (.meth 110 l.x)) it (.it (.call m))⟩ s₈ := h₈
  refine outer_loop (n := n) h₈' hr.deeper T hit0 (by omega) (by omega) (fun H'' s' v g ev T' => back_ret g fun g' => k v _ _ ev g' T'.L T'.b) fun xch H'' s' g e T' => ?_
  refine wp_cons (wp_ret (am_local 1 g rfl rfl fun v e' => back_ret g fun g' => k v _ _ e' g' (e ▸ T'.L) T'.b))
theorem pushed_spec {t : List Nat} {pb : List (List Nat)} (h : At F C σ s) (hr : Rm A (n + 1)) (S : LexR σ.H l text rest (t :: pb)) (hp : pb.length ≤ 1000)
    (k : ∀ v s' H', er v = .str t → At F C ⟨σ.m, H'⟩ s' → LexR H' l text rest pb → But [l.pb] σ.H H' → R (.ok (.ret v)) s') : Cd C.w A (.call (.ref 117) ⟨[.ref l.x], []⟩) R s := by
  obtain ⟨pre, et, x, dx, pbh, st, ap⟩ := S
  refine am_fn h (by kernel_rfl!) (by kernel_rfl!) (kTok _) (by kernel_rfl!) rfl hr.dp rfl fun C' s' E hw h' => ?_
  refine wp_cons (wp_if (wp_tplain (wp_attr (am_local 0 h' rfl rfl fun v e => ?_))))
  cases er_ref e
  refine am_getattr 3 h' x dx rfl rfl (by kernel_rfl!) rfl fun v s₁ h₁ e₁ => ?_
  cases er_ref e₁
  refine am_truthy_list h₁ pbh (by simp; omega) fun s₂ h₂ => ?_
  rw [if_pos (show (!(List.map AV.str (t :: pb)).isEmpty) = true from rfl)]
  refine wp_cons (wp_ret (wp_mcall (wp_attr (am_local 0 h₂ rfl rfl fun v e => ?_))))
  cases er_ref e
  refine am_getattr 3 h₂ x dx rfl rfl (by kernel_rfl!) rfl fun v s₃ h₃ e₃ => ?_
  cases er_ref e₃
  refine am_mpop h₃ pbh (wp_bargs (wp_sp (am_cint h₃ fun v s₄ h₄ e₄ => wp_sp0 (am_pop0 h₄ pbh e₄ (by simp; omega) fun v s₅ e₅ h₅ => back_ret h₅ fun h₆ => k v _ _ e₅ h₆ ⟨pre, et, ?_⟩ ((But.refl _ _).put (.inl (by simp)))))))
  exact ⟨put_keep x (ne_of x pbh nofun), put_keep dx (ne_of dx pbh nofun), hput_self _ _ _, st.keep fun a ao ha hna => put_keep ha fun z => by
    subst z
    rw [pbh] at ha; cases ha
    exact hna.2.1 _ rfl, ap⟩
end
end Mine

end
section
open PySem PySem.W PyProof.Rows PySem.Calls PyProof.Rows.LCg
namespace Mine
noncomputable def TabAt (H : Addr → Option AO) (P : Addr) : Prop := ∃ ps, H P = some (.raw (tabObj ps))
theorem TabAt.ne {H : Addr → Option AO} {P : Addr} (h : TabAt H P) : H P ≠ none := let ⟨_, e⟩ := h; by rw [e]; nofun
theorem put_new {H : Addr → Option AO} {a D : Addr} {ao o : AO} (h : H a = some ao) (hD : H D = none) : hput H D o a = some ao := put_keep h fun z => by rw [z, hD] at h; cases h
theorem hcells_at {H : Addr → Option AO} {L n i : Nat} (h : i < n) : hcells H L n (L + 1 + i) = some (.cell none) := by
  unfold hcells; rw [if_pos ⟨Nat.lt_of_lt_of_le (Nat.lt_succ_self L) (Nat.le_add_right _ _), by rw [Nat.add_assoc]; exact Nat.add_le_add_left (by omega) L⟩]
theorem Kp.cells {H H' : Addr → Option AO} {L n : Nat} (x : Kp H H') (h : ∀ a, L ≤ a → H' a = none) : Kp H (hcells H' L n) := fun a ao e => by
  have e' := x a ao e
  unfold hcells
  rw [if_neg fun z => ?_]
  · exact e'
  · rw [h a (Nat.le_of_lt z.1)] at e'; cases e'
theorem Kp.but {H H' : Addr → Option AO} (x : Kp H H') (l : List Addr) : But l H H' := fun a ao _ e => x a ao e
theorem But.no {l : List Addr} {H H' : Addr → Option AO} (x : But l H H') {D : Addr} (h : H' D = none) (hl : ∀ a ∈ l, H' a ≠ none) : H D = none := by
  cases z : H D with
  | none => rfl
  | some ao =>
    by_cases hd : D ∈ l
    · exact absurd h (hl D hd)
    · rw [x D ao hd z] at h; cases h
theorem But.more {l l' : List Addr} {H H' : Addr → Option AO} (x : But l H H') (k : ∀ a ∈ l, a ∈ l' ∨ H a = none) : But l' H H' := fun a ao n e => x a ao (fun z => by
  rcases k a z with h | h
  · exact n h
  · rw [h] at e; cases e) e

/-- the captured names, written out -/
theorem closL_congr {look look' : Str → Option Addr} : ∀ {l : List (Str × NameKind)} {acc : List (Str × Addr)}, (∀ n, (n, NameKind.free) ∈ l → look n = look' n) → closL look l acc = closL look' l acc
  | [], _, _ => rfl
  | (n, k) :: r, acc, h => by
    unfold closL
    by_cases hk : (k == NameKind.free) = true
    · rw [if_pos hk, if_pos hk]
      have : k = .free := by simpa using hk
      subst this
      rw [h n (.head _)]
      exact closL_congr fun n hn => h n (.tail _ hn)
    · rw [if_neg hk, if_neg hk]
      exact closL_congr fun n hn => h n (.tail _ hn)
theorem caps_look {F : FnS} {C : Cx} (hC : EnvOk F C) : ∀ {cap : List Str} {as : List Addr}, Caps F C cap as → ∀ n ∈ cap, ∃ a, C.env.cells.lookup n = some a ∧ (cap.zip as).lookup n = some a
  | _, _, .nil, n, h => by cases h
  | _, _, .cons (x := x) (a := a) (xs := xs) i h1 h2 r, n, h => by
    by_cases e : n = x
    · subst e
      exact ⟨a, (hC.cv i n h1).2.2 a h2, by simp⟩
    · rcases List.mem_cons.mp h with z | z
      · exact absurd z e
      · obtain ⟨b, q1, q2⟩ := caps_look hC r n z
        refine ⟨b, q1, ?_⟩
        have : (n == x) = false := by simpa using e
        simp [List.lookup_cons, this, q2]
theorem clos_of {F : FnS} {C : Cx} {scope : Scope} (cap : List Str) (as : List Addr) (hC : EnvOk F C) (hcap : Caps F C cap as) (hall : scope.names.all (fun x => x.2 != .free || cap.contains x.1) = true) : closureFor scope C.env = pure (closL (fun n => (cap.zip as).lookup n) scope.names []) := by
  have hm : ∀ n, (n, NameKind.free) ∈ scope.names → n ∈ cap := fun n hn => by
    have := List.all_eq_true.mp hall _ hn
    simp only [bne_self_eq_false, Bool.false_or] at this
    exact List.contains_iff_mem.mp this
  rw [closureFor_L fun n hn => let ⟨a, q, _⟩ := caps_look hC hcap n (hm n hn); ⟨a, q⟩]
  congr 1
  exact closL_congr fun n hn => by
    obtain ⟨a, q1, q2⟩ := caps_look hC hcap n (hm n hn)
    rw [q1, q2]
theorem isVec_of {xs : List AV} (o : Obj) (h : (AO.list xs).Is o) : (AO.vec xs).Is o := by
  obtain ⟨vs, n, rfl, e⟩ := h
  exact ⟨vs, n, rfl, rfl, e⟩
section
variable {F : FnS} {C : Cx} {σ : St} {s : Shared} {A : Around} {R : Result → Shared → Prop} {n : Nat}
/-- a lexer over a stream -/
theorem lex_make {fv : Value} (h : At F C σ s) (hr : Rm A (n + 2))
    (k : ∀ x dx pb s' H', At F C ⟨σ.m, H'⟩ s' → σ.H dx = none → σ.H x = none → σ.H pb = none → Kp σ.H H' → H' x = some (.inst 127 dx) → H' dx = some (.attrs lNames [.int 1, er fv, .str whites, .ref pb]) → H' pb = some (.list []) → R (.ok (.ret (.ref x))) s') :
    Cd C.w A (.call (.ref 127) ⟨[fv], []⟩) R s := by
  refine am_make h (by kernel_rfl!) (fI := 103) (by kernel_rfl!) (by kernel_rfl!) fun x dx s₁ hdx hx ne h₁ => ?_
  have h₁ : At F C ⟨σ.m, hput (hput σ.H dx (.attrs [] [])) x (.inst 127 dx)⟩ s₁ := h₁
  have gx : hput (hput σ.H dx (.attrs [] [])) x (.inst 127 dx) x = some (.inst 127 dx) := hput_self _ _ _
  have gd : hput (hput σ.H dx (.attrs [] [])) x (.inst 127 dx) dx = some (.attrs [] []) := by rw [hput_ne ne]; exact hput_self _ _ _
  have kp : Kp σ.H (hput (hput σ.H dx (.attrs [] [])) x (.inst 127 dx)) := ((Kp.refl σ.H).new hdx).upd hx
  generalize hput (hput σ.H dx (.attrs [] [])) x (.inst 127 dx) = H₁ at h₁ gx gd kp
  refine am_fn h₁ (by kernel_rfl!) (by kernel_rfl!) (kNInit _) (by kernel_rfl!) rfl (hr.make (n := n + 1)).dp rfl fun C' s' E hw h' => ?_
  have kx : ∀ {H : Addr → Option AO} {o : AO}, H x = some (.inst 127 dx) → hput H dx o x = some (.inst 127 dx) := fun e => put_keep e ne.symm
  refine wp_cons (wp_setattr (am_cint h' fun v₁ s₁ h₁ e₁ => am_local 0 h₁ rfl rfl fun v₂ e₂ => ?_))
  cases er_ref e₂
  refine am_addattr (vs := []) h₁ gx gd (by decide) (by kernel_rfl!) (by decide) fun s₂ h₂ => ?_
  have x2 := kx (o := .attrs ["lineno"] [er v₁]) gx
  refine wp_cons (wp_setattr (am_local 1 h₂ rfl rfl fun v₃ e₃ => am_local 0 h₂ rfl rfl fun v₂ e₂ => ?_))
  cases er_ref e₂
  refine am_addattr (ns := ["lineno"]) (vs := [er v₁]) h₂ x2 (hput_self _ _ _) (by decide) (by kernel_rfl!) (by decide) fun s₄ h₄ => ?_
  have x4 := kx (o := .attrs ["lineno", "instream"] [er v₁, er v₃]) x2
  refine wp_cons (wp_setattr (am_cstr h₄ fun v₅ s₅ h₅ e₅ => am_local 0 h₅ rfl rfl fun v₂ e₂ => ?_))
  cases er_ref e₂
  refine am_addattr (ns := ["lineno", "instream"]) (vs := [er v₁, er v₃]) h₅ x4 (hput_self _ _ _) (by decide) (by kernel_rfl!) (by decide) fun s₆ h₆ => ?_
  have x6 := kx (o := .attrs ["lineno", "instream", "whitespace"] [er v₁, er v₃, er v₅]) x4
  have kp6 := ((kp.upd hdx (o := .attrs ["lineno"] [er v₁])).upd hdx (o := .attrs ["lineno", "instream"] [er v₁, er v₃])).upd hdx (o := .attrs ["lineno", "instream", "whitespace"] [er v₁, er v₃, er v₅])
  refine wp_cons (wp_setattr (wp_list (wp_sp0 (am_newlist h₆ (by simp) fun pb s₇ hpb h₇ => am_local 0 h₇ rfl rfl fun v₂ e₂ => ?_))))
  cases er_ref e₂
  have x7 := put_new (o := .list []) x6 hpb
  have d7 := put_new (o := .list []) (hput_self (hput (hput H₁ dx (.attrs ["lineno"] [er v₁])) dx (.attrs ["lineno", "instream"] [er v₁, er v₃])) dx (.attrs ["lineno", "instream", "whitespace"] [er v₁, er v₃, er v₅])) hpb
  refine am_addattr (ns := ["lineno", "instream", "whitespace"]) (vs := [er v₁, er v₃, er v₅]) h₇ x7 d7 (by decide) (by kernel_rfl!) (by decide) fun s₈ h₈ => wp_nil (back_next h₈ fun h₉ => ⟨rfl, ?_⟩)
  refine k x dx pb _ _ h₉ hdx hx (kp6.no hpb) ((kp6.new hpb).upd hdx) (kx x7) ?_ (put_keep (hput_self _ _ _) (ne_of (hput_self _ _ _) d7 nofun))
  rw [e₁, e₃, e₅]; exact hput_self _ _ _
end
end Mine

end
section
open PySem PySem.W PyProof.Rows PySem.Calls PyProof.Rows.LCg
namespace Mine
noncomputable def lexAddrs (l : LexIds) : List Addr := [l.x, l.dx, l.pb, l.i.st, l.i.ds, l.i.rd, l.i.c, l.i.cp, l.i.ct, l.i.pl]
noncomputable def fLexer : FnS := ⟨["read", "stream"], ["text", "place"], [], ["_netrclex"]⟩
noncomputable def bLexer : List Stmt := subs (nth pBody 9)
theorem kLexer (w : World) : FnC fLexer (fdK w 152) := ⟨by kernel_rfl!, by kernel_rfl!, by kernel_rfl!, by kernel_rfl!, by kernel_rfl!⟩
section
variable {F : FnS} {C : Cx} {σ : St} {s : Shared} {A : Around} {R : Result → Shared → Prop} {n : Nat}
theorem lawlexer_spec {tv : Value} {text : List Nat} (h : At F C σ s) (hr : Rm A (n + 3)) (ht : er tv = .str text) (hP : σ.H 147 = some (.raw (tabObj #[])))
    (k : ∀ s' H' l, At F C ⟨σ.m, H'⟩ s' → LexR H' l text text [] → But [147] σ.H H' → (∀ a ∈ lexAddrs l, σ.H a = none) → TabAt H' 147 → R (.ok (.ret (.ref l.x))) s') : Cd C.w A (.call (.ref 152) ⟨[tv], []⟩) R s := by
  refine am_callE (fd := fdK C.w 152) (fo := obK C.w 152) (binds := [("text", tv)]) (body := bLexer) h (h.K _ _ (by kernel_rfl!)) (by kernel_rfl!) (kLexer _) (codeRec_of h.K (by kernel_rfl!)) (by kernel_rfl!) hr.dp [] (fun i x c hx _ => by simp [fLexer] at hx) (by kernel_rfl!) fun C' s₁ hE hfa hca he h₁ E' => ?_
  have hn : (cvs (fdK C.w 152).scope.names).length = 2 := by kernel_rfl!
  rw [hn] at hca h₁
  have c0 : C'.ca[0]? = some (C'.L + 1 + 0) := by rw [hca]; rfl
  have c1 : C'.ca[1]? = some (C'.L + 1 + 1) := by rw [hca]; rfl
  have kp : Kp σ.H (hcells σ.H C'.L 2) := (Kp.refl σ.H).cells hE.fresh
  have g0 : hcells σ.H C'.L 2 (C'.L + 1 + 0) = some (.cell none) := hcells_at (by decide)
  have g1 : hcells σ.H C'.L 2 (C'.L + 1 + 1) = some (.cell none) := hcells_at (by decide)
  have n0 : σ.H (C'.L + 1 + 0) = none := hE.fresh _ (Nat.le_succ _)
  have n1 : σ.H (C'.L + 1 + 1) = none := hE.fresh _ (Nat.le_trans (Nat.le_succ _) (Nat.le_succ _))
  have gne : C'.L + 1 + 0 ≠ C'.L + 1 + 1 := Nat.ne_of_lt (Nat.lt_succ_self _)
  generalize hcells σ.H C'.L 2 = H₁ at h₁ kp g0 g1
  generalize C'.L + 1 + 1 = cp at c1 g1 n1 gne
  generalize C'.L + 1 + 0 = ct at c0 g0 n0 gne
  refine wp_bind1 (am_storecell 0 h₁ rfl c0 g0 fun s₂ h₂ => wp_bind0 ⟨_, h₂, ?_⟩)
  rw [ht] at h₂
  have hcode : C'.env.code = .ref 151 := by rw [he]; kernel_rfl!
  have hC := h₂.gnd.code.2
  -- place = [0]
  refine wp_cons (wp_assign (wp_list (wp_sp (am_cint h₂ fun v₁ s₃ h₃ e₃ => wp_sp0 (am_newlist h₃ (Nat.le_succ_of_le (Nat.succ_le_of_lt (by decide))) fun pl s₄ hpl h₄ => am_storecell 1 h₄ rfl c1 (put_new (put_keep g1 gne.symm) hpl) fun s₅ h₅ => ?_)))))
  rw [show List.map er [v₁] = [er v₁] from rfl, e₃] at h₅
  have h₅ : At fLexer C' ⟨[none, none], hput (hput (hput H₁ ct (.cell (some (.str text)))) pl (.list [.int 0])) cp (.cell (some (.ref pl)))⟩ s₅ := h₅
  have hpl : hput H₁ ct (.cell (some (.str text))) pl = none := hpl
  have kp5 : Kp σ.H (hput (hput (hput H₁ ct (.cell (some (.str text)))) pl (.list [.int 0])) cp (.cell (some (.ref pl)))) := ((kp.upd n0).new hpl).upd n1
  have npl : σ.H pl = none := (kp.upd n0).no hpl
  have a5 : hput (hput (hput H₁ ct (.cell (some (.str text)))) pl (.list [.int 0])) cp (.cell (some (.ref pl))) ct = some (.cell (some (.str text))) := put_keep (put_new (hput_self _ _ _) hpl) gne
  have b5 : hput (hput (hput H₁ ct (.cell (some (.str text)))) pl (.list [.int 0])) cp (.cell (some (.ref pl))) cp = some (.cell (some (.ref pl))) := hput_self _ _ _
  have p5 : hput (hput (hput H₁ ct (.cell (some (.str text)))) pl (.list [.int 0])) cp (.cell (some (.ref pl))) pl = some (.list [.int 0]) := put_keep (hput_self _ _ _) fun z => by
    have : hput H₁ ct (.cell (some (.str text))) cp = some (.cell none) := put_keep g1 gne.symm
    rw [← z, hpl] at this; cases this
  generalize hput (hput (hput H₁ ct (.cell (some (.str text)))) pl (.list [.int 0])) cp (.cell (some (.ref pl))) = H₅ at h₅ kp5 a5 b5 p5
  have hP5 := kp5 _ _ hP
  -- def read
  have caps : Caps fLexer C' ["place", "text"] [cp, ct] := .cons 1 rfl c1 (.cons 0 rfl c0 .nil)
  refine wp_cons (wp_def rfl rfl rfl (am_mkdef h₅ hcode hC hP5 trivial rfl (clos_of (scope := fdScope stRead) ["place", "text"] [cp, ct] h₅.env caps (by kernel_rfl!)) fun f c' s₆ doc pm ctv hf hc' nfc h₆ => am_store 0 h₆ rfl fun s₇ h₇ => ?_))
  have h₇ : At fLexer C' ⟨[some (.ref f), none], hput (hput (hput H₅ 147 (.raw (tabObj #[rawInt 98, rawInt 4, .ref c']))) c' (.code (qualnameIn C'.env "read" "read"))) f (.fn (fdRead (qualnameIn C'.env "read" "read") [("text", ct), ("place", cp)] doc pm c' ctv) none)⟩ s₇ := h₇
  have q5 := put_keep (o := .raw (tabObj #[rawInt 98, rawInt 4, .ref c'])) a5 (ne_of a5 hP5 nofun)
  have hf5 : H₅ f = none := hf
  have hc5 : H₅ c' = none := hc'
  have kf : ∀ {a ao}, H₅ a = some ao → a ≠ 147 → hput (hput (hput H₅ 147 (.raw (tabObj #[rawInt 98, rawInt 4, .ref c']))) c' (.code (qualnameIn C'.env "read" "read"))) f (.fn (fdRead (qualnameIn C'.env "read" "read") [("text", ct), ("place", cp)] doc pm c' ctv) none) a = some ao := fun {a ao} e ne => by
    rw [hput_ne (fun z => by rw [z, hf5] at e; cases e), hput_ne (fun z => by rw [z, hc5] at e; cases e), hput_ne ne]; exact e
  have a7 := kf a5 (ne_of a5 hP5 nofun)
  have b7 := kf b5 (ne_of b5 hP5 nofun)
  have p7 := kf p5 (ne_of p5 hP5 nofun)
  have f7 : hput (hput (hput H₅ 147 (.raw (tabObj #[rawInt 98, rawInt 4, .ref c']))) c' (.code (qualnameIn C'.env "read" "read"))) f (.fn (fdRead (qualnameIn C'.env "read" "read") [("text", ct), ("place", cp)] doc pm c' ctv) none) f = some (.fn (fdRead (qualnameIn C'.env "read" "read") [("text", ct), ("place", cp)] doc pm c' ctv) none) := hput_self _ _ _
  have c7 : hput (hput (hput H₅ 147 (.raw (tabObj #[rawInt 98, rawInt 4, .ref c']))) c' (.code (qualnameIn C'.env "read" "read"))) f (.fn (fdRead (qualnameIn C'.env "read" "read") [("text", ct), ("place", cp)] doc pm c' ctv) none) c' = some (.code (qualnameIn C'.env "read" "read")) := by
    rw [hput_ne nfc.symm]; exact hput_self _ _ _
  have P7 : hput (hput (hput H₅ 147 (.raw (tabObj #[rawInt 98, rawInt 4, .ref c']))) c' (.code (qualnameIn C'.env "read" "read"))) f (.fn (fdRead (qualnameIn C'.env "read" "read") [("text", ct), ("place", cp)] doc pm c' ctv) none) 147 = some (.raw (tabObj #[rawInt 98, rawInt 4, .ref c'])) := by
    rw [hput_ne (fun z => by rw [← z, hP5] at hf5; cases hf5), hput_ne (fun z => by rw [← z, hP5] at hc5; cases hc5)]; exact hput_self _ _ _
  have nf : σ.H f = none := kp5.no hf5
  have nc : σ.H c' = none := kp5.no hc5
  have bt7 : But [147] σ.H (hput (hput (hput H₅ 147 (.raw (tabObj #[rawInt 98, rawInt 4, .ref c']))) c' (.code (qualnameIn C'.env "read" "read"))) f (.fn (fdRead (qualnameIn C'.env "read" "read") [("text", ct), ("place", cp)] doc pm c' ctv) none)) :=
    (((kp5.but _).put (.inl (by simp))).put (.inr nc)).put (.inr nf)
  generalize hput (hput (hput H₅ 147 (.raw (tabObj #[rawInt 98, rawInt 4, .ref c']))) c' (.code (qualnameIn C'.env "read" "read"))) f (.fn (fdRead (qualnameIn C'.env "read" "read") [("text", ct), ("place", cp)] doc pm c' ctv) none) = H₇ at h₇ a7 b7 p7 f7 c7 P7 bt7
  generalize qualnameIn C'.env "read" "read" = qual at f7 c7
  -- stream = lambda: None
  refine wp_cons (wp_assign (am_mklam h₇ hcode hC P7 trivial rfl (clos_of [] [] h₇.env .nil rfl) rfl fun g c₂ s₈ pm₂ ctv₂ hg hc₂ ngc h₈ => am_store 1 h₈ rfl fun s₉ h₉ => ?_))
  have h₉ : At fLexer C' ⟨[some (.ref f), some (.ref g)], hput (hput (hput H₇ 147 (.raw (tabObj #[rawInt 98, rawInt 4, .ref c', rawInt 102, rawInt 13, .ref c₂]))) c₂ (.code (C'.env.qual ++ "<lambda>"))) g (.fn (kla_fn "<lambda>" (C'.env.qual ++ "<lambda>") _ _ _ _ pm₂ (.ref c₂) ctv₂) none)⟩ s₉ := h₉
  have hg7 : H₇ g = none := hg
  have hc7 : H₇ c₂ = none := hc₂
  have e9 : ∃ H₉ fd, At fLexer C' ⟨[some (.ref f), some (.ref g)], H₉⟩ s₉ ∧ H₉ g = some (.fn fd none) ∧ (∀ a ao, H₇ a = some ao → a ≠ 147 → H₉ a = some ao) ∧ But [147] σ.H H₉ ∧ TabAt H₉ 147 := by
    refine ⟨_, _, h₉, hput_self _ _ _, fun a ao e ne => ?_, ((bt7.put (.inl (by simp))).put (.inr (bt7.no hc7 fun a ha => by rw [List.mem_singleton.mp ha, P7]; nofun))).put (.inr (bt7.no hg7 fun a ha => by rw [List.mem_singleton.mp ha, P7]; nofun)), ?_⟩
    · rw [hput_ne (fun z => by rw [z, hg7] at e; cases e), hput_ne (fun z => by rw [z, hc7] at e; cases e), hput_ne ne]; exact e
    · refine ⟨#[rawInt 98, rawInt 4, .ref c', rawInt 102, rawInt 13, .ref c₂], ?_⟩
      rw [hput_ne (fun z => by rw [← z, P7] at hg7; cases hg7), hput_ne (fun z => by rw [← z, P7] at hc7; cases hc7)]; exact hput_self _ _ _
  obtain ⟨H₉, fd, h₉, g9, k9, bt9, P9⟩ := e9
  have a9 := k9 _ _ a7 (ne_of a7 P7 nofun)
  have b9 := k9 _ _ b7 (ne_of b7 P7 nofun)
  have p9 := k9 _ _ p7 (ne_of p7 P7 nofun)
  have f9 := k9 _ _ f7 (ne_of f7 P7 nofun)
  have c9 := k9 _ _ c7 (ne_of c7 P7 nofun)
  -- stream.read = read
  refine wp_cons (wp_setattr (am_local 0 h₉ rfl rfl fun v e => am_local 1 h₉ rfl rfl fun v₂ e₂ => ?_))
  cases er_ref e
  cases er_ref e₂
  refine am_fnset1 h₉ g9 noread fun ds s₁₀ hds nds h₁₀ => ?_
  have hds : H₉ ds = none := hds
  have h₁₀ : At fLexer C' ⟨[some (.ref f), some (.ref g)], hput (hput H₉ ds (.attrs ["read"] [.ref f])) g (.fn fd (some ds))⟩ s₁₀ := h₁₀
  have e10 : ∃ H₁₀, At fLexer C' ⟨[some (.ref f), some (.ref g)], H₁₀⟩ s₁₀ ∧ H₁₀ g = some (.fn fd (some ds)) ∧ H₁₀ ds = some (.attrs ["read"] [.ref f]) ∧ (∀ a ao, H₉ a = some ao → a ≠ g → H₁₀ a = some ao) ∧ But [147] σ.H H₁₀ ∧ TabAt H₁₀ 147 := by
    refine ⟨_, h₁₀, hput_self _ _ _, ?_, fun a ao e ne => ?_, (bt9.put (.inr (bt9.no hds fun a ha => by rw [List.mem_singleton.mp ha]; exact P9.ne))).put ?_, ?_⟩
    · rw [hput_ne nds]; exact hput_self _ _ _
    · rw [hput_ne ne]; exact put_new e hds
    · exact .inr (bt7.no hg7 fun a ha => by rw [List.mem_singleton.mp ha, P7]; nofun)
    · obtain ⟨ps, e⟩ := P9
      refine ⟨ps, ?_⟩
      rw [hput_ne fun z => by rw [← z, P7] at hg7; cases hg7]
      exact put_new e hds
  obtain ⟨H₁₀, h₁₀, g10, d10, k10, bt10, P10⟩ := e10
  have ng : ∀ {a ao}, H₇ a = some ao → a ≠ g := fun {a ao} e z => by rw [z, hg7] at e; cases e
  have a10 := k10 _ _ a9 (ng a7)
  have b10 := k10 _ _ b9 (ng b7)
  have p10 := k10 _ _ p9 (ng p7)
  have f10 := k10 _ _ f9 (ng f7)
  have c10 := k10 _ _ c9 (ng c7)
  have h₁₁ := h₁₀.recast p10 isVec_of
  have h₁₁ : At fLexer C' ⟨[some (.ref f), some (.ref g)], hput H₁₀ pl (.vec [.int 0])⟩ s₁₀ := h₁₁
  have S : StreamAt (hput H₁₀ pl (.vec [.int 0])) ⟨g, ds, f, c', cp, ct, pl⟩ text 0 :=
    ⟨⟨fd, put_keep g10 (ne_of g10 p10 nofun)⟩, put_keep d10 (ne_of d10 p10 nofun), ⟨qual, doc, pm, ctv, put_keep f10 (ne_of f10 p10 nofun), put_keep c10 (ne_of c10 p10 nofun)⟩, put_keep b10 (ne_of b10 p10 nofun), put_keep a10 (ne_of a10 p10 nofun), hput_self _ _ _⟩
  have bt11 : But [147] σ.H (hput H₁₀ pl (.vec [.int 0])) := bt10.put (.inr npl)
  have P11 : TabAt (hput H₁₀ pl (.vec [.int 0])) 147 := by
    obtain ⟨ps, e⟩ := P10
    exact ⟨ps, put_keep e (ne_of e p10 nofun)⟩
  have ngf : σ.H g = none := bt7.no hg7 fun a ha => by rw [List.mem_singleton.mp ha, P7]; nofun
  have ndf : σ.H ds = none := bt9.no hds fun a ha => by rw [List.mem_singleton.mp ha]; exact P9.ne
  generalize hput H₁₀ pl (.vec [.int 0]) = H₁₁ at h₁₁ S bt11 P11
  -- return _netrclex(stream)
  refine wp_cons (wp_ret (wp_callx (am_glob 0 h₁₁ rfl (by kernel_rfl!) (wp_clsargs (by kernel_rfl!) (wp_sp (am_local 1 h₁₁ rfl rfl fun v e => wp_sp0 ⟨h₁₁.K, wp_call (lex_make (n := n) h₁₁ hr.deeper fun x dx pb s₁₂ H₁₂ h₁₂ ndx nx npb kp12 x12 d12 p12 => ?_)⟩))))))
  rw [e] at d12
  have P12 : TabAt H₁₂ 147 := let ⟨ps, e⟩ := P11; ⟨ps, kp12 _ _ e⟩
  have P11 : ∀ a ∈ [147], H₁₁ a ≠ none := fun a ha => by rw [List.mem_singleton.mp ha]; exact P11.ne
  refine back_ret h₁₂ fun h₁₃ => k _ _ ⟨x, dx, pb, ⟨g, ds, f, c', cp, ct, pl⟩⟩ h₁₃ ⟨[], rfl, x12, d12, p12, S.keep fun a ao ea _ => kp12 a ao ea, fun z => ?_⟩ (fun a ao na ea => kp12 a ao (bt11 a ao na ea)) (fun a ha => ?_) P12
  case refine_2 =>
    revert a ha
    exact allC (bt11.no nx P11) <| allC (bt11.no ndx P11) <| allC (bt11.no npb P11) <| allC (ngf) <| allC (ndf) <| allC (nf) <| allC (nc) <| allC (n1) <| allC (n0) <| allC (npl) <| allN
  obtain ⟨_, _, _, _, _, S7⟩ := S
  have z : dx = pl := z
  rw [z] at ndx
  have ndx : H₁₁ pl = none := ndx
  have S7 : H₁₁ pl = some (.vec [.int 0]) := S7
  rw [ndx] at S7; cases S7
end
end Mine

end
section
open PySem PySem.W PyProof.Rows PySem.Calls PyProof.Rows.LCg
namespace Mine
structure TapeIds where
  tp : Addr
  dt : Addr
  wr : Addr
  fl : Addr
  cl : Addr
  cw : Addr
  cf : Addr
  cc : Addr
  cM : Addr
  cR : Addr
  cC : Addr
  cL : Addr
  cS : Addr
  lc : Addr
  ll : Addr
  ls : Addr
noncomputable def stWrite : Stmt := nth (subs (nth pBody 8)) 1
noncomputable def bWrite : List Stmt := subs stWrite
noncomputable def fWrite : FnS := ⟨["text", "part"], [], ["calls", "left", "most", "room", "signs"], ["BadZipFile", "LargeZipFile", "min", "len"]⟩
noncomputable abbrev fdWrite (qual : Str) (clos : List (Str × Addr)) (doc pm : Value) (c : Addr) (ctv : Value) : FuncData := fdDef "write" qual (fdParams stWrite) bWrite (fdScope stWrite) clos doc pm c ctv
theorem kWrite (qual : Str) (clos : List (Str × Addr)) (doc pm : Value) (c : Addr) (ctv : Value) : FnC fWrite (fdWrite qual clos doc pm c ctv) := ⟨rfl, rfl, rfl, rfl, by kernel_rfl!⟩
noncomputable def lamOf : Stmt → Expr
  | .Assign _ v _ => v
  | _ => .Constant .none 0 ⟨0, 0, 0, 0⟩
noncomputable def lamArgs : Expr → Arguments
  | .Lambda a _ _ _ => a
  | _ => default
noncomputable def lamBody : Expr → Expr
  | .Lambda _ b _ _ => b
  | e => e
noncomputable def lamScope : Expr → Scope
  | .Lambda _ _ sc _ => sc
  | _ => default
/-- the tape's lambdas: 4 flush, 5 close -/
noncomputable def lamT (j : Nat) : Expr := lamOf (nth (subs (nth pBody 8)) j)
noncomputable abbrev fdLam (j : Nat) (qual : Str) (clos : List (Str × Addr)) (pm : Value) (c : Addr) (ctv : Value) : FuncData := kla_fn "<lambda>" qual (lamArgs (lamT j)) (lamBody (lamT j)) (lamScope (lamT j)) clos pm (.ref c) ctv
noncomputable def tapeNames : List Str := ["write", "flush", "close"]
structure TapeAt (H : Addr → Option AO) (i : TapeIds) (most room : Int) (signs calls : List (List Nat)) (left : Int) : Prop where
  tp : ∃ fd, H i.tp = some (.fn fd (some i.dt))
  dt : H i.dt = some (.attrs tapeNames [.ref i.wr, .ref i.fl, .ref i.cl])
  wr : ∃ qual doc pm ctv, H i.wr = some (.fn (fdWrite qual [("signs", i.cS), ("room", i.cR), ("most", i.cM), ("left", i.cL), ("calls", i.cC)] doc pm i.cw ctv) none) ∧ H i.cw = some (.code qual)
  fl : ∃ qual pm ctv, H i.fl = some (.fn (fdLam 4 qual [("calls", i.cC)] pm i.cf ctv) none) ∧ H i.cf = some (.code qual)
  cl : ∃ qual pm ctv, H i.cl = some (.fn (fdLam 5 qual [("calls", i.cC)] pm i.cc ctv) none) ∧ H i.cc = some (.code qual)
  cM : H i.cM = some (.cell (some (.int most)))
  cR : H i.cR = some (.cell (some (.int room)))
  cC : H i.cC = some (.cell (some (.ref i.lc)))
  cL : H i.cL = some (.cell (some (.ref i.ll)))
  cS : H i.cS = some (.cell (some (.ref i.ls)))
  lc : H i.lc = some (.list (calls.map AV.str))
  ll : H i.ll = some (.vec [.int left])
  ls : H i.ls = some (.list (signs.map AV.str))
  ne : i.lc ≠ i.ls
/-- what a tape does not turn -/
noncomputable def Tapey (ao : AO) : Prop := (∀ (ns : List Str) vs, ns ≠ tapeNames → ao ≠ .attrs ns vs) ∧ ∀ Cl d, ao ≠ .inst Cl d
theorem TapeAt.keep {H H' : Addr → Option AO} {i : TapeIds} {most room left : Int} {signs calls : List (List Nat)} (T : TapeAt H i most room signs calls left) (k : ∀ a ao, H a = some ao → Tapey ao → H' a = some ao) : TapeAt H' i most room signs calls left := by
  obtain ⟨⟨fd, tp⟩, dt, ⟨q1, d1, p1, c1, wr, cw⟩, ⟨q2, p2, c2, fl, cf⟩, ⟨q3, p3, c3, cl, cc⟩, cM, cR, cC, cL, cS, lc, ll, ls, ne⟩ := T
  have b : ∀ {a ao}, H a = some ao → (∀ (ns : List Str) vs, ao ≠ .attrs ns vs) → (∀ Cl d, ao ≠ .inst Cl d) → H' a = some ao := fun e x y => k _ _ e ⟨fun ns vs _ => x ns vs, y⟩
  exact ⟨⟨fd, b tp (fun _ _ => nofun) fun _ _ => nofun⟩, k _ _ dt ⟨fun ns vs n z => by cases z; exact n rfl, fun _ _ => nofun⟩, ⟨q1, d1, p1, c1, b wr (fun _ _ => nofun) fun _ _ => nofun, b cw (fun _ _ => nofun) fun _ _ => nofun⟩, ⟨q2, p2, c2, b fl (fun _ _ => nofun) fun _ _ => nofun, b cf (fun _ _ => nofun) fun _ _ => nofun⟩,
    ⟨q3, p3, c3, b cl (fun _ _ => nofun) fun _ _ => nofun, b cc (fun _ _ => nofun) fun _ _ => nofun⟩, b cM (fun _ _ => nofun) fun _ _ => nofun, b cR (fun _ _ => nofun) fun _ _ => nofun, b cC (fun _ _ => nofun) fun _ _ => nofun, b cL (fun _ _ => nofun) fun _ _ => nofun, b cS (fun _ _ => nofun) fun _ _ => nofun,
    b lc (fun _ _ => nofun) fun _ _ => nofun, b ll (fun _ _ => nofun) fun _ _ => nofun, b ls (fun _ _ => nofun) fun _ _ => nofun, ne⟩
theorem TapeAt.putLeft {H : Addr → Option AO} {i : TapeIds} {most room left left' : Int} {signs calls : List (List Nat)} (T : TapeAt H i most room signs calls left) : TapeAt (hput H i.ll (.vec [.int left'])) i most room signs calls left' := by
  obtain ⟨⟨fd, tp⟩, dt, ⟨q1, d1, p1, c1, wr, cw⟩, ⟨q2, p2, c2, fl, cf⟩, ⟨q3, p3, c3, cl, cc⟩, cM, cR, cC, cL, cS, lc, ll, ls, ne⟩ := T
  have b : ∀ {a ao}, H a = some ao → ao ≠ .vec [.int left] → hput H i.ll (.vec [.int left']) a = some ao := fun e x => put_keep e (ne_of e ll x)
  exact ⟨⟨fd, b tp nofun⟩, b dt nofun, ⟨q1, d1, p1, c1, b wr nofun, b cw nofun⟩, ⟨q2, p2, c2, b fl nofun, b cf nofun⟩, ⟨q3, p3, c3, b cl nofun, b cc nofun⟩, b cM nofun, b cR nofun, b cC nofun, b cL nofun, b cS nofun, b lc nofun, hput_self _ _ _, b ls nofun, ne⟩
theorem TapeAt.putSigns {H : Addr → Option AO} {i : TapeIds} {most room left : Int} {signs signs' calls : List (List Nat)} (T : TapeAt H i most room signs calls left) : TapeAt (hput H i.ls (.list (signs'.map AV.str))) i most room signs' calls left := by
  obtain ⟨⟨fd, tp⟩, dt, ⟨q1, d1, p1, c1, wr, cw⟩, ⟨q2, p2, c2, fl, cf⟩, ⟨q3, p3, c3, cl, cc⟩, cM, cR, cC, cL, cS, lc, ll, ls, ne⟩ := T
  have b : ∀ {a ao}, H a = some ao → ao ≠ .list (signs.map AV.str) → hput H i.ls (.list (signs'.map AV.str)) a = some ao := fun e x => put_keep e (ne_of e ls x)
  exact ⟨⟨fd, b tp nofun⟩, b dt nofun, ⟨q1, d1, p1, c1, b wr nofun, b cw nofun⟩, ⟨q2, p2, c2, b fl nofun, b cf nofun⟩, ⟨q3, p3, c3, b cl nofun, b cc nofun⟩, b cM nofun, b cR nofun, b cC nofun, b cL nofun, b cS nofun, put_keep lc ne, b ll nofun, hput_self _ _ _, ne⟩
theorem TapeAt.putCalls {H : Addr → Option AO} {i : TapeIds} {most room left : Int} {signs calls calls' : List (List Nat)} (T : TapeAt H i most room signs calls left) : TapeAt (hput H i.lc (.list (calls'.map AV.str))) i most room signs calls' left := by
  obtain ⟨⟨fd, tp⟩, dt, ⟨q1, d1, p1, c1, wr, cw⟩, ⟨q2, p2, c2, fl, cf⟩, ⟨q3, p3, c3, cl, cc⟩, cM, cR, cC, cL, cS, lc, ll, ls, ne⟩ := T
  have b : ∀ {a ao}, H a = some ao → ao ≠ .list (calls.map AV.str) → hput H i.lc (.list (calls'.map AV.str)) a = some ao := fun e x => put_keep e (ne_of e lc x)
  exact ⟨⟨fd, b tp nofun⟩, b dt nofun, ⟨q1, d1, p1, c1, b wr nofun, b cw nofun⟩, ⟨q2, p2, c2, b fl nofun, b cf nofun⟩, ⟨q3, p3, c3, b cl nofun, b cc nofun⟩, b cM nofun, b cR nofun, b cC nofun, b cL nofun, b cS nofun, hput_self _ _ _, b ll nofun, put_keep ls ne.symm, ne⟩
noncomputable def closeL : List Nat := (Str.ofString "close").cps.toList
noncomputable def flushL : List Nat := (Str.ofString "flush").cps.toList
noncomputable def closedL : List Nat := (Str.ofString "closed for ").cps.toList
section
variable {F : FnS} {C : Cx} {σ : St} {s : Shared} {A : Around} {R : Result → Shared → Prop} {n : Nat} {fs : List Env}
theorem twrite_spec {i : TapeIds} {most room left : Int} {signs calls : List (List Nat)} {text : List Nat} {tv : Value} (h : At F C σ s) (hr : Rm A (n + 2)) (T : TapeAt σ.H i most room signs calls left) (ht : er tv = .str text)
    (hm : 0 ≤ most) (hm' : most ≤ 1000) (hl : 0 ≤ left) (hl' : left ≤ 1000) (hz : text.length ≤ 1000) (hs : signs.length ≤ 100000) (stk : Stk A C fs)
    (kok : calls.contains closeL = false → ¬ (text ≠ [] ∧ left = 0) → ∀ v s' H', At F C ⟨σ.m, H'⟩ s' → er v = .int (text.take (min most left).toNat).length → TapeAt H' i most room (signs ++ [text.take (min most left).toNat]) calls (left - (text.take (min most left).toNat).length) → But [i.ll, i.ls] σ.H H' → R (.ok (.ret v)) s')
    (kfull : calls.contains closeL = false → text ≠ [] → left = 0 → ∀ e v s' H', At F C ⟨σ.m, H'⟩ s' → er v = .str text → Fly C.g H' fs e (.ref 37) [v] s' → TapeAt H' i most room signs calls room → But [i.ll, i.ls] σ.H H' → R (.error (.ref e)) s')
    (kbad : calls.contains closeL = true → ∀ e v s', At F C σ s' → er v = .str (closedL ++ text) → Fly C.g σ.H fs e (.ref 24) [v] s' → R (.error (.ref e)) s') :
    Cd C.w A (.call (.ref i.wr) ⟨[tv], []⟩) R s := by
  obtain ⟨qual, doc, pm, ctv, W1, W2⟩ := T.wr
  obtain ⟨o, ho, ⟨c1, c2, c3⟩, _⟩ := h.get W1
  refine am_callE (fd := fdWrite qual _ doc pm _ ctv) (binds := [("text", tv)]) (body := bWrite) h ho c3 (kWrite _ _ _ _ _ _) (h.codeRec W2) (by kernel_rfl!) hr.dp [i.cC, i.cL, i.cM, i.cR, i.cS] (fun j x c hx hc' => ?_) rfl fun C' s₁ hE hfa hca he h₁ E' => ?_
  · match j, hx, hc' with
    | 0, hx, hc' => cases hx; cases hc'; rfl
    | 1, hx, hc' => cases hx; cases hc'; rfl
    | 2, hx, hc' => cases hx; cases hc'; rfl
    | 3, hx, hc' => cases hx; cases hc'; rfl
    | 4, hx, hc' => cases hx; cases hc'; rfl
    | j + 5, hx, _ => simp [fWrite] at hx
  have hn : (cvs (fdScope stWrite).names).length = 0 := by kernel_rfl!
  have e0 : hcells σ.H C'.L 0 = σ.H := by
    funext a; unfold hcells; exact if_neg fun z => absurd (Nat.lt_of_lt_of_le z.1 z.2) (Nat.lt_irrefl _)
  have h₁ : At fWrite C' ⟨[none, none], hcells σ.H C'.L (cvs (fdScope stWrite).names).length⟩ s₁ := h₁
  rw [hn, e0] at h₁
  have f0 : C'.fa[0]? = some i.cC := by rw [hfa]; rfl
  have f1 : C'.fa[1]? = some i.cL := by rw [hfa]; rfl
  have f2 : C'.fa[2]? = some i.cM := by rw [hfa]; rfl
  have f3 : C'.fa[3]? = some i.cR := by rw [hfa]; rfl
  have f4 : C'.fa[4]? = some i.cS := by rw [hfa]; rfl
  have hfr : C'.env.frame = some C'.L := by rw [he]; rfl
  have stk' := hE.stk hfr fs stk
  refine wp_bind1 (am_store 0 h₁ rfl fun s₂ h₂ => wp_bind0 ⟨_, h₂, ?_⟩)
  rw [ht] at h₂
  have h₂ : At fWrite C' ⟨[some (.str text), none], σ.H⟩ s₂ := h₂
  -- if 'close' in calls
  refine wp_cons (wp_if (wp_tcmp (am_cstr h₂ fun v₁ s₃ h₃ e₁ => am_free 0 h₃ rfl f0 T.cC fun v₂ e₂ => ?_)))
  cases er_ref e₂
  refine am_instrs (zs := calls) h₃ e₁ T.lc (am_truthy_bool ?_)
  show if calls.contains closeL = true then _ else _
  cases hcl : calls.contains closeL with
  | true =>
    rw [if_pos rfl]
    refine wp_cons (am_raise (Cl := 24) 0 h₃ hr.hand rfl (by kernel_rfl!) (by kernel_rfl!) (wp_binop (am_cstr h₃ fun v₄ s₄ h₄ e₄ => am_local 0 h₄ rfl rfl fun v₅ e₅ => am_sadd h₄ e₄ e₅ (by show 11 + _ ≤ _; omega) fun v₆ s₆ h₆ e₆ => ⟨_, h₆, fun h' e hx => ?_⟩)))
    refine leaves_made h₆ stk' hfr hx fun s₇ h₇ fly => ?_
    rw [hE.g] at fly
    have h₈ := hE.back _ _ h₇
    exact kbad hcl e v₆ s₇ h₈ e₆ fly
  | false =>
    rw [if_neg (by decide)]
    refine wp_nil ?_
    -- the room
    have left0 : ∀ (σ₁ : St) s (Q : Value → Shared → Prop) (E : Value → Shared → Prop) p1 p2 p3 (L : Int), At fWrite C' σ₁ s → σ₁.H i.cL = some (.cell (some (.ref i.ll))) → σ₁.H i.ll = some (.vec [.int L]) → (∀ v s', At fWrite C' σ₁ s' → er v = .int L → Q v s') →
        Wp C'.w (A.deeper C'.env) (eval (.Subscript (.Name "left" p1) (.Constant (.int 0) 0 p2) p3) C'.env) Q E s := fun σ₁ s Q E p1 p2 p3 L g a b q =>
      wp_sub (am_free 1 g rfl f1 a fun v e => am_cint g fun v₂ s₂ g₂ e₂ => by
        cases er_ref e
        exact am_tailitem g₂ (.inr b) e₂ (by decide) rfl (by decide) fun v₃ e₃ => q v₃ _ g₂ e₃)
    -- the rest of the body
    have rest : ∀ s, ¬ (text ≠ [] ∧ left = 0) → At fWrite C' ⟨[some (.str text), none], σ.H⟩ s →
        Wp C'.w (A.deeper C'.env) (execs (bWrite.drop 2) C'.env) (Back F C σ fWrite C' R) (LeaveE C.w A C'.env R) s := fun s hno g => by
      refine wp_cons (wp_assign (wp_sub (am_local 0 g rfl rfl fun tv et => wp_slice (wp_pnone (wp_psome (wp_callx (am_bltn (v := .builtin "min") 2 g rfl (by kernel_rfl!) (by kernel_rfl!) (by decide) (wp_bargs (wp_sp (am_free 2 g rfl f2 T.cM fun mv em => wp_sp (left0 _ _ _ _ _ _ _ left g T.cL T.ll fun lv s₄ g₄ el => wp_sp0 (am_min2 g₄ hr.hand em el fun uv s₅ g₅ eu => wp_pnone ?_))))))))))))
      refine am_sslice (li := none) (ui := some (min most left)) g₅ et rfl eu (by omega) fun v s₆ g₆ ev => am_store 1 g₆ rfl fun s₇ g₇ => ?_
      have cut : (text.drop (loOf none text.length)).take (hiOf (some (min most left)) text.length - loOf none text.length) = text.take (min most left).toNat := by
        have e1 : loOf none text.length = 0 := rfl
        have e2 : hiOf (some (min most left)) text.length = min (min most left).toNat text.length := hiOf_pos (by omega) _
        rw [e1, e2, List.drop_zero, Nat.sub_zero, ← List.take_take, List.take_length]
      rw [ev, cut] at g₇
      have hpz : (text.take (min most left).toNat).length ≤ 1000 := by rw [List.length_take]; omega
      have g₇ : At fWrite C' ⟨[some (.str text), some (.str (text.take (min most left).toNat))], σ.H⟩ s₇ := g₇
      generalize text.take (min most left).toNat = part at g₇ kok hpz
      refine wp_cons (wp_augsub (am_free 1 g₇ rfl f1 T.cL fun pv ep => ?_))
      cases er_ref ep
      refine am_cint g₇ fun zv s₈ g₈ ez => am_item g₈ (.inr T.ll) ez (by decide) rfl (by decide) fun ov eo => wp_callx (am_bltn (v := .builtin "len") 3 g₈ rfl (by kernel_rfl!) (by kernel_rfl!) (by decide) (wp_bargs (wp_sp (am_local 1 g₈ rfl rfl fun qv eq => wp_sp0 (am_slen g₈ eq (by omega) fun nv s₉ g₉ en => am_isub g₉ eo en fun rv s₁₀ g₁₀ er' => ?_)))))
      refine am_setitem g₁₀ T.ll ez (by decide) (by show (0 : Int) < 1; decide) (by decide) fun s₁₁ g₁₁ => ?_
      rw [er'] at g₁₁
      have g₁₁ : At fWrite C' ⟨[some (.str text), some (.str part)], hput σ.H i.ll (.vec [.int (left - part.length)])⟩ s₁₁ := g₁₁
      have T₂ := T.putLeft (left' := left - part.length)
      refine wp_cons (wp_expr (wp_mcall (am_free 4 g₁₁ rfl f4 T₂.cS fun v e => ?_)) g₁₁.notInt)
      cases er_ref e
      refine am_mappend g₁₁ T₂.ls (wp_bargs (wp_sp (am_local 1 g₁₁ rfl rfl fun v e => wp_sp0 (am_append g₁₁ T₂.ls (by simp; omega) fun s₁₂ g₁₂ => ?_))))
      rw [e] at g₁₂
      have e1 : signs.map AV.str ++ [AV.str part] = (signs ++ [part]).map AV.str := by simp
      rw [e1] at g₁₂
      have T₃ := T₂.putSigns (signs' := signs ++ [part])
      have g₁₂ : At fWrite C' ⟨[some (.str text), some (.str part)], hput (hput σ.H i.ll (.vec [.int (left - part.length)])) i.ls (.list ((signs ++ [part]).map AV.str))⟩ s₁₂ := g₁₂
      refine wp_cons (wp_ret (wp_callx (am_bltn (v := .builtin "len") 3 g₁₂ rfl (by kernel_rfl!) (by kernel_rfl!) (by decide) (wp_bargs (wp_sp (am_local 1 g₁₂ rfl rfl fun qv eq => wp_sp0 (am_slen g₁₂ eq (by omega) fun nv s₁₃ g₁₃ en => ?_)))))))
      exact back_ret g₁₃ fun g₁₄ => kok hcl hno nv _ _ g₁₄ en T₃ (((But.refl _ _).put (.inl (by simp))).put (.inl (by simp)))
    refine wp_cons (wp_if (wp_tand (wp_tcmp (am_local 0 h₃ rfl rfl fun v e => am_cstr h₃ fun v₂ s₄ h₄ e₂ => am_sne e e₂ (am_truthy_bool ?_)))))
    show if (text != []) = true then _ else _
    by_cases hte : text = []
    · rw [if_neg (by rw [hte]; decide), if_neg (by decide)]
      exact wp_nil (rest _ (fun z => z.1 hte) h₄)
    · rw [if_pos (by simpa using hte)]
      refine wp_tand (wp_tcmp (left0 _ _ _ _ _ _ _ left h₄ T.cL T.ll fun lv s₅ h₅ el => am_cint h₅ fun v₃ s₆ h₆ e₃ => am_eq el e₃ (am_truthy_bool ?_)))
      by_cases hl0 : left = 0
      · rw [if_pos (by rw [hl0]; decide)]
        refine wp_tand0 ?_
        rw [if_pos rfl]
        refine wp_cons (wp_setsub (am_free 3 h₆ rfl f3 T.cR fun rv er' => am_free 1 h₆ rfl f1 T.cL fun v e => ?_))
        cases er_ref e
        refine am_cint h₆ fun zv s₇ h₇ ez => am_setitem h₇ T.ll ez (by decide) (by show (0 : Int) < 1; decide) (by decide) fun s₈ h₈ => ?_
        rw [er'] at h₈
        have h₈ : At fWrite C' ⟨[some (.str text), none], hput σ.H i.ll (.vec [.int room])⟩ s₈ := h₈
        refine wp_cons (am_raise (Cl := 37) 1 h₈ hr.hand rfl (by kernel_rfl!) (by kernel_rfl!) (am_local 0 h₈ rfl rfl fun v₄ e₄ => ⟨_, h₈, fun h' e hx => ?_⟩))
        refine leaves_made h₈ stk' hfr hx fun s₉ h₉ fly => ?_
        rw [hE.g] at fly
        exact kfull hcl hte hl0 e v₄ s₉ _ (hE.back _ _ h₉) e₄ fly T.putLeft ((But.refl _ _).put (.inl (by simp)))
      · rw [if_neg (by simpa using hl0), if_neg (by decide)]
        exact wp_nil (rest _ (fun z => hl0 z.2) h₆)
end
end Mine

end
section
open PySem PySem.W PyProof.Rows PySem.Calls PyProof.Rows.LCg
namespace Mine
noncomputable def fLam : FnS := ⟨[], [], ["calls"], []⟩
theorem kLam4 (qual : Str) (clos : List (Str × Addr)) (pm : Value) (c : Addr) (ctv : Value) : FnC fLam (fdLam 4 qual clos pm c ctv) := ⟨rfl, rfl, rfl, rfl, by kernel_rfl!⟩
theorem kLam5 (qual : Str) (clos : List (Str × Addr)) (pm : Value) (c : Addr) (ctv : Value) : FnC fLam (fdLam 5 qual clos pm c ctv) := ⟨rfl, rfl, rfl, rfl, by kernel_rfl!⟩
section
variable {F : FnS} {C : Cx} {σ : St} {s : Shared} {A : Around} {R : Result → Shared → Prop} {n : Nat} {fs : List Env}
theorem TapeAt.putNew {H : Addr → Option AO} {i : TapeIds} {most room left : Int} {signs calls : List (List Nat)} (T : TapeAt H i most room signs calls left) {D : Addr} {o : AO} (h : H D = none) : TapeAt (hput H D o) i most room signs calls left :=
  T.keep fun a ao e _ => put_new e h
theorem tflush_spec {i : TapeIds} {most room left : Int} {signs calls : List (List Nat)} (h : At F C σ s) (hr : Rm A (n + 2)) (T : TapeAt σ.H i most room signs calls left) (hz : calls.length ≤ 1000)
    (k : ∀ v s' H', At F C ⟨σ.m, H'⟩ s' → TapeAt H' i most room signs (calls ++ [flushL]) left → But [i.lc] σ.H H' → R (.ok (.ret v)) s') :
    Cd C.w A (.call (.ref i.fl) ⟨[], []⟩) R s := by
  obtain ⟨qual, pm, ctv, W1, W2⟩ := T.fl
  obtain ⟨o, ho, ⟨c1, c2, c3⟩, _⟩ := h.get W1
  refine am_lamcall (fd := fdLam 4 qual _ pm _ ctv) (body := lamBody (lamT 4)) h ho c3 (kLam4 _ _ _ _ _) (h.codeRec W2) (by kernel_rfl!) hr.dp [i.cC] (fun j x c hx hc' => ?_) rfl (by kernel_rfl!) fun C' s₁ hE hfa h₁ E' => ?_
  · match j, hx, hc' with
    | 0, hx, hc' => cases hx; cases hc'; rfl
    | j + 1, hx, _ => simp [fLam] at hx
  have f0 : C'.fa[0]? = some i.cC := by rw [hfa]; rfl
  refine wp_list (wp_sp (wp_mcall (am_free 0 h₁ rfl f0 T.cC fun v e => ?_)))
  cases er_ref e
  refine am_mappend h₁ T.lc (wp_bargs (wp_sp (am_cstr h₁ fun v s₂ h₂ e₂ => wp_sp0 (am_append h₂ T.lc (by simp; omega) fun s₃ h₃ => wp_sp0 (am_newlist h₃ (Nat.le_succ_of_le (Nat.succ_le_of_lt (by decide))) fun D s₄ hD h₄ => back_ret h₄ fun h₅ => ?_)))))
  rw [e₂] at h₅
  have e1 : calls.map AV.str ++ [AV.str (Str.ofString "flush").cps.toList] = (calls ++ [flushL]).map AV.str := by simp [flushL]
  rw [e₂, e1] at hD
  rw [e1] at h₅
  have T2 := T.putCalls (calls' := calls ++ [flushL])
  have hD' : hput σ.H i.lc (.list ((calls ++ [flushL]).map AV.str)) D = none := hD
  have nD : σ.H D = none := by
    cases z : σ.H D with
    | none => rfl
    | some ao =>
      by_cases q : D = i.lc
      · rw [q, hput_self] at hD'; cases hD'
      · rw [hput_ne q, z] at hD'; cases hD'
  exact k _ _ _ h₅ (T2.putNew hD') (((But.refl _ _).put (.inl (by simp))).put (.inr nD))
theorem tclose_spec {i : TapeIds} {most room left : Int} {signs calls : List (List Nat)} (h : At F C σ s) (hr : Rm A (n + 2)) (T : TapeAt σ.H i most room signs calls left) (hz : calls.length ≤ 1000)
    (k : ∀ v s' H', At F C ⟨σ.m, H'⟩ s' → TapeAt H' i most room signs (calls ++ [closeL]) left → But [i.lc] σ.H H' → R (.ok (.ret v)) s') :
    Cd C.w A (.call (.ref i.cl) ⟨[], []⟩) R s := by
  obtain ⟨qual, pm, ctv, W1, W2⟩ := T.cl
  obtain ⟨o, ho, ⟨c1, c2, c3⟩, _⟩ := h.get W1
  refine am_lamcall (fd := fdLam 5 qual _ pm _ ctv) (body := lamBody (lamT 5)) h ho c3 (kLam5 _ _ _ _ _) (h.codeRec W2) (by kernel_rfl!) hr.dp [i.cC] (fun j x c hx hc' => ?_) rfl (by kernel_rfl!) fun C' s₁ hE hfa h₁ E' => ?_
  · match j, hx, hc' with
    | 0, hx, hc' => cases hx; cases hc'; rfl
    | j + 1, hx, _ => simp [fLam] at hx
  have f0 : C'.fa[0]? = some i.cC := by rw [hfa]; rfl
  refine wp_list (wp_sp (wp_mcall (am_free 0 h₁ rfl f0 T.cC fun v e => ?_)))
  cases er_ref e
  refine am_mappend h₁ T.lc (wp_bargs (wp_sp (am_cstr h₁ fun v s₂ h₂ e₂ => wp_sp0 (am_append h₂ T.lc (by simp; omega) fun s₃ h₃ => wp_sp0 (am_newlist h₃ (Nat.le_succ_of_le (Nat.succ_le_of_lt (by decide))) fun D s₄ hD h₄ => back_ret h₄ fun h₅ => ?_)))))
  rw [e₂] at h₅
  have e1 : calls.map AV.str ++ [AV.str (Str.ofString "close").cps.toList] = (calls ++ [closeL]).map AV.str := by simp [closeL]
  rw [e₂, e1] at hD
  rw [e1] at h₅
  have T2 := T.putCalls (calls' := calls ++ [closeL])
  have hD' : hput σ.H i.lc (.list ((calls ++ [closeL]).map AV.str)) D = none := hD
  have nD : σ.H D = none := by
    cases z : σ.H D with
    | none => rfl
    | some ao =>
      by_cases q : D = i.lc
      · rw [q, hput_self] at hD'; cases hD'
      · rw [hput_ne q, z] at hD'; cases hD'
  exact k _ _ _ h₅ (T2.putNew hD') (((But.refl _ _).put (.inl (by simp))).put (.inr nD))
end
end Mine

end
section
open PySem PySem.W PyProof.Rows PySem.Calls PyProof.Rows.LCg
set_option linter.unusedVariables false
namespace Mine
noncomputable def low (i : Nat) : Nat := if i % 2 = 1 then 1 else if i % 4 = 2 then 2 else if i % 8 = 4 then 4 else 8
theorem low_pos (i : Nat) : 1 ≤ low i := by unfold low; split <;> (try split) <;> (try split) <;> omega
structure Tree where
  X : Nat → Addr
  D : Nat → Addr
noncomputable def upTo (t : Tree) (tp : Addr) (N i : Nat) : Addr := if i ≤ N then t.X i else tp
structure TreeAt (H : Addr → Option AO) (t : Tree) (tp : Addr) (N : Nat) (offs : Nat → Int) : Prop where
  x : ∀ i, 1 ≤ i → i ≤ N → H (t.X i) = some (.inst 85 (t.D i))
  d : ∀ i, 1 ≤ i → i ≤ N → H (t.D i) = some (.attrs tNames [.ref (upTo t tp N (i + low i)), .int (offs i)])
  inj : ∀ i j, 1 ≤ i → i ≤ N → 1 ≤ j → j ≤ N → t.D i = t.D j → i = j
noncomputable def chain (N : Nat) : Nat → Nat → List Nat
  | 0, _ => []
  | d + 1, i => if i ≤ N then i :: chain N d (i + low i) else []
theorem chain_succ (N d i : Nat) : chain N (d + 1) i = if i ≤ N then i :: chain N d (i + low i) else [] := rfl
theorem chain_ge {N : Nat} : ∀ {d i j : Nat}, j ∈ chain N d i → i ≤ j
  | 0, _, _, h => by simp [chain] at h
  | d + 1, i, j, h => by
    unfold chain at h
    split at h
    · rcases List.mem_cons.mp h with rfl | h
      · exact Nat.le_refl _
      · have := chain_ge h; omega
    · cases h
theorem TreeAt.keep {H H' : Addr → Option AO} {t : Tree} {tp : Addr} {N : Nat} {offs : Nat → Int} (U : TreeAt H t tp N offs) (k : ∀ a ao, H a = some ao → ((∃ d, ao = .inst 85 d) ∨ ∃ vs, ao = .attrs tNames vs) → H' a = some ao) : TreeAt H' t tp N offs :=
  ⟨fun i a b => k _ _ (U.x i a b) (.inl ⟨_, rfl⟩), fun i a b => k _ _ (U.d i a b) (.inr ⟨_, rfl⟩), U.inj⟩
theorem TreeAt.set {H : Addr → Option AO} {t : Tree} {tp : Addr} {N : Nat} {offs : Nat → Int} (U : TreeAt H t tp N offs) (i : Nat) (h1 : 1 ≤ i) (h2 : i ≤ N) (v : Int) : TreeAt (hput H (t.D i) (.attrs tNames [.ref (upTo t tp N (i + low i)), .int v])) t tp N (fun j => if j = i then v else offs j) := by
  refine ⟨fun j a b => put_keep (U.x j a b) (ne_of (U.x j a b) (U.d i h1 h2) nofun), fun j a b => ?_, U.inj⟩
  by_cases e : j = i
  · subst e; rw [if_pos rfl]; exact hput_self _ _ _
  · rw [if_neg e]; exact put_keep (U.d j a b) fun z => e (U.inj j i a b h1 h2 z)
theorem TreeAt.congr {H : Addr → Option AO} {t : Tree} {tp : Addr} {N : Nat} {offs offs' : Nat → Int} (U : TreeAt H t tp N offs) (k : ∀ i, 1 ≤ i → i ≤ N → offs i = offs' i) : TreeAt H t tp N offs' :=
  ⟨U.x, fun i a b => by rw [← k i a b]; exact U.d i a b, U.inj⟩
theorem TapeAt.putTree {H : Addr → Option AO} {i : TapeIds} {most room left : Int} {signs calls : List (List Nat)} (T : TapeAt H i most room signs calls left) {D : Addr} {vs vs' : List AV} (h : H D = some (.attrs tNames vs)) : TapeAt (hput H D (.attrs tNames vs')) i most room signs calls left :=
  T.keep fun a ao e q => put_keep e fun z => by
    subst z
    rw [h] at e; cases e
    exact q.1 tNames vs (by decide) rfl
noncomputable def touch (ti : TapeIds) (t : Tree) (N : Nat) : List Addr := [ti.ll, ti.ls] ++ (List.range N).map (fun j => t.D (j + 1))
theorem touch_D {ti : TapeIds} {t : Tree} {N i : Nat} (h1 : 1 ≤ i) (h2 : i ≤ N) : t.D i ∈ touch ti t N := by
  unfold touch
  refine List.mem_append_right _ (List.mem_map.mpr ⟨i - 1, List.mem_range.mpr (by omega), ?_⟩)
  congr 1; omega
noncomputable def fTW : FnS := ⟨["self", "data", "n"], [], [], []⟩
theorem kTW (w : World) : FnC fTW (fdK w 61) := ⟨by kernel_rfl!, by kernel_rfl!, by kernel_rfl!, by kernel_rfl!, by kernel_rfl!⟩
theorem nowrite : typeLookup (.type "function") "write" = pure none := by rw [typeLookup_type, builtinLookup_eq_fast]; kernel_rfl
theorem noflush : typeLookup (.type "function") "flush" = pure none := by rw [typeLookup_type, builtinLookup_eq_fast]; kernel_rfl
theorem noclose : typeLookup (.type "function") "close" = pure none := by rw [typeLookup_type, builtinLookup_eq_fast]; kernel_rfl
theorem Rm.cast {A : Around} {n m : Nat} (h : Rm A n) (e : m ≤ n) : Rm A m := h.less e

theorem write_at {ti : TapeIds} {t : Tree} {N : Nat} {most room left : Int} {signs calls : List (List Nat)} {text : List Nat} {offs : Nat → Int} (hm : 0 ≤ most) (hm' : most ≤ 1000) (hl : 0 ≤ left) (hl' : left ≤ 1000) (hz : text.length ≤ 1000) (hs : signs.length ≤ 100000) (n : Nat) : ∀ (d i : Nat), 1 ≤ i → i ≤ N → N + 1 ≤ i + d →
    ∀ {F : FnS} {C : Cx} {σ : St} {s : Shared} {A : Around} {R : Result → Shared → Prop} {fs : List Env} {tv : Value} (h : At F C σ s) (hr : Rm A (n + d + 2)) (T : TapeAt σ.H ti most room signs calls left) (U : TreeAt σ.H t ti.tp N offs) (ht : er tv = .str text) (stk : Stk A C fs)
    (kok : calls.contains closeL = false → ¬ (text ≠ [] ∧ left = 0) → ∀ v s' H', At F C ⟨σ.m, H'⟩ s' → er v = .int (text.take (min most left).toNat).length → TapeAt H' ti most room (signs ++ [text.take (min most left).toNat]) calls (left - (text.take (min most left).toNat).length) →
      TreeAt H' t ti.tp N (fun j => if j ∈ chain N d i then offs j + (text.take (min most left).toNat).length else offs j) → But (touch ti t N) σ.H H' → R (.ok (.ret v)) s')
    (kfull : calls.contains closeL = false → text ≠ [] → left = 0 → ∀ e v s' H', At F C ⟨σ.m, H'⟩ s' → er v = .str text → Fly C.g H' fs e (.ref 37) [v] s' → TapeAt H' ti most room signs calls room → TreeAt H' t ti.tp N offs → But (touch ti t N) σ.H H' → R (.error (.ref e)) s')
    (kbad : calls.contains closeL = true → ∀ e v s', At F C ⟨σ.m, σ.H⟩ s' → er v = .str (closedL ++ text) → Fly C.g σ.H fs e (.ref 24) [v] s' → R (.error (.ref e)) s'),
    Cd C.w A (.call (.ref 61) ⟨[.ref (t.X i), tv], []⟩) R s := by
  intro d
  induction d with
  | zero => intro i h1 h2 h3; omega
  | succ d ih =>
    intro i h1 h2 h3 F C σ s A R fs tv h hr T U ht stk kok kfull kbad
    have Ux := U.x i h1 h2
    have Ud := U.d i h1 h2
    have hsub : ∀ {H'}, But [ti.ll, ti.ls] σ.H H' → But (touch ti t N) σ.H H' := fun b => b.more fun a ha => .inl (by
      unfold touch; exact List.mem_append_left _ ha)
    refine am_callE (fd := fdK C.w 61) (fo := obK C.w 61) (binds := [("self", .ref (t.X i)), ("data", tv)]) (body := bT 1) h (h.K _ _ (by kernel_rfl!)) (by kernel_rfl!) (kTW _) (codeRec_of h.K (by kernel_rfl!)) (by kernel_rfl!) hr.dp [] (fun j x c hx _ => by simp [fTW] at hx) (by kernel_rfl!) fun C' s₁ hE hfa hca he h₁ E' => ?_
    have hn : (cvs (fdK C.w 61).scope.names).length = 0 := by kernel_rfl!
    have e0 : hcells σ.H C'.L 0 = σ.H := by
      funext a; unfold hcells; exact if_neg fun z => absurd (Nat.lt_of_lt_of_le z.1 z.2) (Nat.lt_irrefl _)
    have h₁ : At fTW C' ⟨[none, none, none], hcells σ.H C'.L (cvs (fdK C.w 61).scope.names).length⟩ s₁ := h₁
    rw [hn, e0] at h₁
    have hfr : C'.env.frame = some C'.L := by rw [he]; rfl
    have stk' := hE.stk hfr fs stk
    refine wp_bind1 (am_store 0 h₁ rfl fun s₂ h₂ => wp_bind1 (am_store 1 h₂ rfl fun s₃ h₃ => wp_bind0 ⟨_, h₃, ?_⟩))
    rw [ht] at h₃
    have h₃ : At fTW C' ⟨[some (.ref (t.X i)), some (.str text), none], σ.H⟩ s₃ := h₃
    -- behind the call within
    have tail : ∀ (p : Int) v s H' (offs' : Nat → Int) signs' left', At fTW C' ⟨[some (.ref (t.X i)), some (.str text), none], H'⟩ s → er v = .int p → TapeAt H' ti most room signs' calls left' → TreeAt H' t ti.tp N offs' → But (touch ti t N) σ.H H' →
        (∀ v s' H'', At F C ⟨σ.m, H''⟩ s' → er v = .int p → TapeAt H'' ti most room signs' calls left' → TreeAt H'' t ti.tp N (fun j => if j = i then offs' i + p else offs' j) → But (touch ti t N) σ.H H'' → R (.ok (.ret v)) s') →
        Wp C'.w (A.deeper C'.env) (storeName C'.env "n" v) (fun _ s' => Wp C'.w (A.deeper C'.env) (execs ((bT 1).drop 1) C'.env) (Back F C σ fTW C' R) (LeaveE C.w A C'.env R) s')
          (LeaveE C.w A C'.env R) s := fun p v s H' offs' signs' left' g ev T' U' b q => by
      have Ux' := U'.x i h1 h2
      have Ud' := U'.d i h1 h2
      refine am_store 2 g rfl fun s₂ g₂ => ?_
      rw [ev] at g₂
      have g₂ : At fTW C' ⟨[some (.ref (t.X i)), some (.str text), some (.int p)], H'⟩ s₂ := g₂
      refine wp_cons (wp_augattr (am_local 0 g₂ rfl rfl fun v e => ?_))
      cases er_ref e
      refine am_getattr 1 g₂ Ux' Ud' rfl rfl (by kernel_rfl!) rfl fun ov s₄ g₄ e₄ => am_local 2 g₄ rfl rfl fun v₅ e₅ => am_iadd g₄ e₄ e₅ fun v₆ s₆ g₆ e₆ => ?_
      refine am_setattr 1 g₆ Ux' Ud' rfl (Nat.lt_succ_self _) (by kernel_rfl!) (by decide) fun s₇ g₇ => ?_
      rw [e₆] at g₇
      refine wp_cons (wp_ret (am_local 2 g₇ rfl rfl fun v₈ e₈ => back_ret g₇ fun g₈ => ?_))
      exact q v₈ _ _ g₈ e₈ (T'.putTree Ud') (U'.set i h1 h2 (offs' i + p)) (b.put (.inl (touch_D h1 h2)))
    refine wp_cons (wp_assign (wp_mcall (wp_attr (am_local 0 h₃ rfl rfl fun v e => ?_))))
    cases er_ref e
    refine am_getattr 0 h₃ Ux Ud rfl rfl (by kernel_rfl!) rfl fun v s₄ h₄ e₄ => ?_
    cases er_ref e₄
    by_cases hup : i + low i ≤ N
    · have eu : upTo t ti.tp N (i + low i) = t.X (i + low i) := by unfold upTo; rw [if_pos hup]
      rw [eu]
      have lp := low_pos i
      refine am_method (f := 61) h₄ (U.x (i + low i) (by omega) hup) (U.d (i + low i) (by omega) hup) (by decide) (by kernel_rfl!) (wp_fnargs (wp_sp (am_local 1 h₄ rfl rfl fun v e => wp_sp0 ⟨h₄.fnAt (by kernel_rfl!), wp_call ?_⟩)))
      refine ih (i + low i) (by omega) hup (by omega) h₄ ((hr.cast (m := n + d + 2 + 1) (by omega)).deeper) T U e stk' (fun c1 c2 v s' H' g ev T' U' b => ?_) (fun c1 c2 c3 e v s' H' g ev fly T' U' b => ?_) fun c1 e v s' g ev fly => ?_
      · refine tail _ v s' H' _ _ _ g ev T' U' b fun v s'' H'' g' ev' T'' U'' b' => kok c1 c2 v s'' H'' g' ev' T'' (U''.congr fun j a b => ?_) b'
        have ni : i ∉ chain N d (i + low i) := fun z => by have := chain_ge z; omega
        rw [chain_succ, if_pos h2]
        by_cases e : j = i
        · subst e; simp [ni]
        · simp [e]
      · refine leaves_on g stk' hfr fly fun s₇ h₇ fly' => ?_
        rw [hE.g] at fly'
        have h₈ := hE.back _ _ h₇
        exact kfull c1 c2 c3 e v s₇ _ h₈ ev fly' T' U' b
      · refine leaves_on g stk' hfr fly fun s₇ h₇ fly' => ?_
        rw [hE.g] at fly'
        have h₈ := hE.back _ _ h₇
        exact kbad c1 e v s₇ h₈ ev fly'
    · have eu : upTo t ti.tp N (i + low i) = ti.tp := by unfold upTo; rw [if_neg hup]
      rw [eu]
      obtain ⟨fd, tp⟩ := T.tp
      obtain ⟨_, _, _, _, W1, _⟩ := T.wr
      refine am_fnmethod 0 h₄ tp T.dt rfl rfl rfl nowrite fun v s₅ h₅ e₅ => ?_
      cases er_ref e₅
      refine wp_fnargs (wp_sp (am_local 1 h₅ rfl rfl fun v e => wp_sp0 ⟨h₅.fnH W1, wp_call ?_⟩))
      refine twrite_spec (n := n + d) h₅ ((hr.cast (m := n + d + 2 + 1) (by omega)).deeper) T e hm hm' hl hl' hz hs stk' (fun c1 c2 v s' H' g ev T' b => ?_) (fun c1 c2 c3 e v s' H' g ev fly T' b => ?_) fun c1 e v s' g ev fly => ?_
      · obtain U' : TreeAt H' t ti.tp N offs := U.keep fun a ao ea q => b a ao (fun z => by
          rcases List.mem_cons.mp z with z | z
          · rw [z, T.ll] at ea; cases ea; rcases q with ⟨_, q⟩ | ⟨_, q⟩ <;> cases q
          · rw [List.mem_singleton.mp z, T.ls] at ea; cases ea; rcases q with ⟨_, q⟩ | ⟨_, q⟩ <;> cases q) ea
        refine tail _ v s' H' _ _ _ g ev T' U' (hsub b) fun v s'' H'' g' ev' T'' U'' b' => kok c1 c2 v s'' H'' g' ev' T'' (U''.congr fun j a b => ?_) b'
        have ni : ∀ j, j ∉ chain N d (i + low i) := fun j => by
          cases d with
          | zero => simp [chain]
          | succ d => rw [chain_succ, if_neg hup]; simp
        rw [chain_succ, if_pos h2]
        by_cases e : j = i
        · subst e; simp
        · simp [e, ni]
      · refine leaves_on g stk' hfr fly fun s₇ h₇ fly' => ?_
        rw [hE.g] at fly'
        have h₈ := hE.back _ _ h₇
        obtain U' : TreeAt H' t ti.tp N offs := U.keep fun a ao ea q => b a ao (fun z => by
          rcases List.mem_cons.mp z with z | z
          · rw [z, T.ll] at ea; cases ea; rcases q with ⟨_, q⟩ | ⟨_, q⟩ <;> cases q
          · rw [List.mem_singleton.mp z, T.ls] at ea; cases ea; rcases q with ⟨_, q⟩ | ⟨_, q⟩ <;> cases q) ea
        exact kfull c1 c2 c3 e v s₇ _ h₈ ev fly' T' U' (hsub b)
      · refine leaves_on g stk' hfr fly fun s₇ h₇ fly' => ?_
        rw [hE.g] at fly'
        have h₈ := hE.back _ _ h₇
        exact kbad c1 e v s₇ h₈ ev fly'
end Mine

end
section
open PySem PySem.W PyProof.Rows PySem.Calls PyProof.Rows.LCg
set_option linter.unusedVariables false
namespace Mine
theorem kTFlush (w : World) : FnK fSelf ["self"] (bT 3) (fdK w 75) :=
  .of1 (by kernel_rfl!) (by kernel_rfl!) (by kernel_rfl!) (by kernel_rfl!) fun a => by kernel_rfl!
theorem flush_at {ti : TapeIds} {t : Tree} {N : Nat} {most room left : Int} {signs calls : List (List Nat)} {offs : Nat → Int} (hz : calls.length ≤ 1000) (n : Nat) : ∀ (d i : Nat), 1 ≤ i → i ≤ N → N + 1 ≤ i + d →
    ∀ {F : FnS} {C : Cx} {σ : St} {s : Shared} {A : Around} {R : Result → Shared → Prop} (h : At F C σ s) (hr : Rm A (n + d + 2)) (T : TapeAt σ.H ti most room signs calls left) (U : TreeAt σ.H t ti.tp N offs)
    (k : ∀ s' H', At F C ⟨σ.m, H'⟩ s' → TapeAt H' ti most room signs (calls ++ [flushL]) left → But [ti.lc] σ.H H' → R (.ok (.ret .none)) s'),
    Cd C.w A (.call (.ref 75) ⟨[.ref (t.X i)], []⟩) R s := by
  intro d
  induction d with
  | zero => intro i h1 h2 h3; omega
  | succ d ih =>
    intro i h1 h2 h3 F C σ s A R h hr T U k
    have Ux := U.x i h1 h2
    have Ud := U.d i h1 h2
    refine am_fn h (by kernel_rfl!) (by kernel_rfl!) (kTFlush _) (by kernel_rfl!) rfl hr.dp rfl fun C' s' E hw h' => ?_
    refine wp_cons (wp_expr (wp_mcall (wp_attr (am_local 0 h' rfl rfl fun v e => ?_))) h'.notInt)
    cases er_ref e
    refine am_getattr 0 h' Ux Ud rfl rfl (by kernel_rfl!) rfl fun v s₄ h₄ e₄ => ?_
    cases er_ref e₄
    by_cases hup : i + low i ≤ N
    · have eu : upTo t ti.tp N (i + low i) = t.X (i + low i) := by unfold upTo; rw [if_pos hup]
      rw [eu]
      have lp := low_pos i
      refine am_method (f := 75) h₄ (U.x (i + low i) (by omega) hup) (U.d (i + low i) (by omega) hup) (by decide) (by kernel_rfl!) (wp_fnargs0 (h₄.fnAt (by kernel_rfl!)) (wp_call ?_))
      exact ih (i + low i) (by omega) hup (by omega) h₄ ((hr.cast (m := n + d + 2 + 1) (by omega)).deeper) T U fun s'' H' g T' b => wp_nil (back_next g fun g' => k _ _ g' T' b)
    · have eu : upTo t ti.tp N (i + low i) = ti.tp := by unfold upTo; rw [if_neg hup]
      rw [eu]
      obtain ⟨fd, tp⟩ := T.tp
      obtain ⟨_, _, _, W1, _⟩ := T.fl
      refine am_fnmethod 1 h₄ tp T.dt rfl rfl rfl noflush fun v s₅ h₅ e₅ => ?_
      cases er_ref e₅
      refine wp_fnargs0 (h₅.fnH W1) (wp_call ?_)
      exact tflush_spec (n := n + d) h₅ ((hr.cast (m := n + d + 2 + 1) (by omega)).deeper) T hz fun v s'' H' g T' b => wp_nil (back_next g fun g' => k _ _ g' T' b)
theorem kTClose (w : World) : FnK fSelf ["self"] (bT 4) (fdK w 82) :=
  .of1 (by kernel_rfl!) (by kernel_rfl!) (by kernel_rfl!) (by kernel_rfl!) fun a => by kernel_rfl!
theorem close_at {ti : TapeIds} {t : Tree} {N : Nat} {most room left : Int} {signs calls : List (List Nat)} {offs : Nat → Int} (hz : calls.length ≤ 1000) (n : Nat) : ∀ (d i : Nat), 1 ≤ i → i ≤ N → N + 1 ≤ i + d →
    ∀ {F : FnS} {C : Cx} {σ : St} {s : Shared} {A : Around} {R : Result → Shared → Prop} (h : At F C σ s) (hr : Rm A (n + d + 2)) (T : TapeAt σ.H ti most room signs calls left) (U : TreeAt σ.H t ti.tp N offs)
    (k : ∀ s' H', At F C ⟨σ.m, H'⟩ s' → TapeAt H' ti most room signs (calls ++ [closeL]) left → But [ti.lc] σ.H H' → R (.ok (.ret .none)) s'),
    Cd C.w A (.call (.ref 82) ⟨[.ref (t.X i)], []⟩) R s := by
  intro d
  induction d with
  | zero => intro i h1 h2 h3; omega
  | succ d ih =>
    intro i h1 h2 h3 F C σ s A R h hr T U k
    have Ux := U.x i h1 h2
    have Ud := U.d i h1 h2
    refine am_fn h (by kernel_rfl!) (by kernel_rfl!) (kTClose _) (by kernel_rfl!) rfl hr.dp rfl fun C' s' E hw h' => ?_
    refine wp_cons (wp_expr (wp_mcall (wp_attr (am_local 0 h' rfl rfl fun v e => ?_))) h'.notInt)
    cases er_ref e
    refine am_getattr 0 h' Ux Ud rfl rfl (by kernel_rfl!) rfl fun v s₄ h₄ e₄ => ?_
    cases er_ref e₄
    by_cases hup : i + low i ≤ N
    · have eu : upTo t ti.tp N (i + low i) = t.X (i + low i) := by unfold upTo; rw [if_pos hup]
      rw [eu]
      have lp := low_pos i
      refine am_method (f := 82) h₄ (U.x (i + low i) (by omega) hup) (U.d (i + low i) (by omega) hup) (by decide) (by kernel_rfl!) (wp_fnargs0 (h₄.fnAt (by kernel_rfl!)) (wp_call ?_))
      exact ih (i + low i) (by omega) hup (by omega) h₄ ((hr.cast (m := n + d + 2 + 1) (by omega)).deeper) T U fun s'' H' g T' b => wp_nil (back_next g fun g' => k _ _ g' T' b)
    · have eu : upTo t ti.tp N (i + low i) = ti.tp := by unfold upTo; rw [if_neg hup]
      rw [eu]
      obtain ⟨fd, tp⟩ := T.tp
      obtain ⟨_, _, _, W1, _⟩ := T.cl
      refine am_fnmethod 2 h₄ tp T.dt rfl rfl rfl noclose fun v s₅ h₅ e₅ => ?_
      cases er_ref e₅
      refine wp_fnargs0 (h₅.fnH W1) (wp_call ?_)
      exact tclose_spec (n := n + d) h₅ ((hr.cast (m := n + d + 2 + 1) (by omega)).deeper) T hz fun v s'' H' g T' b => wp_nil (back_next g fun g' => k _ _ g' T' b)
end Mine

end
section
open PySem PySem.W PyProof.Rows PySem.Calls PyProof.Rows.LCg
set_option linter.unusedVariables false
namespace Mine
/-- what is known, written out; what was known before is as it was, but `old` -/
structure Lg (H0 : Addr → Option AO) (old : List Addr) (H : Addr → Option AO) (l : List (Addr × AO)) : Prop where
  nd : (l.map (·.1)).Nodup
  at' : ∀ p ∈ l, H p.1 = some p.2
  own : ∀ p ∈ l, p.1 ∈ old ∨ H0 p.1 = none
  olds : ∀ a ∈ old, H a ≠ none
  but : But old H0 H
theorem none_put {H : Addr → Option AO} {D E : Addr} {o ao : AO} (h : H D = none) (e : H E = some ao) : hput H E o D = none := by
  rw [hput_ne fun z => ?_]
  · exact h
  · rw [z, e] at h; cases h
theorem none_put' {H : Addr → Option AO} {D E : Addr} {o : AO} (h : H D = none) (e : D ≠ E) : hput H E o D = none := by rw [hput_ne e]; exact h
section
variable {H0 H : Addr → Option AO} {old : List Addr} {l : List (Addr × AO)}
theorem Lg.get (L : Lg H0 old H l) (i : Nat) {a : Addr} {ao : AO} (h : l[i]? = some (a, ao)) : H a = some ao := L.at' _ (List.mem_of_getElem? h)
theorem Lg.no0 (L : Lg H0 old H l) {D : Addr} (h : H D = none) : H0 D = none := L.but.no h L.olds
theorem Lg.new (L : Lg H0 old H l) {D : Addr} (h : H D = none) {o : AO} : Lg H0 old (hput H D o) ((D, o) :: l) := by
  have h0 := L.no0 h
  refine ⟨?_, fun p hp => ?_, fun p hp => ?_, fun a ha => ?_, L.but.put (.inr h0)⟩
  · rw [List.map_cons, List.nodup_cons]
    refine ⟨fun hm => ?_, L.nd⟩
    obtain ⟨p, hp, e⟩ := List.mem_map.mp hm
    have := L.at' p hp
    have e' : p.1 = D := e
    rw [e', h] at this; cases this
  · rcases List.mem_cons.mp hp with rfl | hp
    · exact hput_self _ _ _
    · exact put_new (L.at' p hp) h
  · rcases List.mem_cons.mp hp with rfl | hp
    · exact .inr h0
    · exact L.own p hp
  · have := L.olds a ha
    cases z : H a with
    | none => exact absurd z this
    | some ao => rw [put_new z h]; nofun
theorem Lg.set (L : Lg H0 old H l) (i : Nat) {D : Addr} {o o' : AO} (h : l[i]? = some (D, o)) : Lg H0 old (hput H D o') (l.set i (D, o')) := by
  have hD := L.get i h
  have hi : i < l.length := (List.getElem?_eq_some_iff.mp h).1
  have e1 : (l.set i (D, o')).map (·.1) = l.map (·.1) := by
    rw [List.map_set]
    refine List.ext_getElem? fun j => ?_
    rw [List.getElem?_set]
    split
    · rename_i z; subst z
      rw [if_pos (by simpa using hi), List.getElem?_map, h]; rfl
    · rfl
  have mem : ∀ p ∈ l.set i (D, o'), p = (D, o') ∨ (p ∈ l ∧ p.1 ≠ D) := fun p hp => by
    obtain ⟨j, hj⟩ := List.getElem?_of_mem hp
    rw [List.getElem?_set] at hj
    split at hj
    · rename_i z
      subst z
      first | exact .inl (Option.some.inj hj).symm | (rw [if_pos hi] at hj; exact .inl (Option.some.inj hj).symm)
    · rename_i hij
      refine .inr ⟨List.mem_of_getElem? hj, fun z => hij ?_⟩
      have a1 : (l.map (·.1))[i]? = some D := by rw [List.getElem?_map, h]; rfl
      have a2 : (l.map (·.1))[j]? = some D := by rw [List.getElem?_map, hj]; exact congrArg some z
      exact (List.getElem?_inj (by simpa using hi) L.nd).mp (a1.trans a2.symm)
  refine ⟨by rw [e1]; exact L.nd, fun p hp => ?_, fun p hp => ?_, fun a ha => ?_, L.but.put (L.own _ (List.mem_of_getElem? h))⟩
  · rcases mem p hp with rfl | ⟨hp, ne⟩
    · exact hput_self _ _ _
    · exact put_keep (L.at' p hp) ne
  · rcases mem p hp with rfl | ⟨hp, ne⟩
    · exact L.own (D, o) (List.mem_of_getElem? h)
    · exact L.own p hp
  · by_cases e : a = D
    · rw [e, hput_self]; nofun
    · rw [hput_ne e]; exact L.olds a ha
theorem Lg.mk3 (L : Lg H0 old H l) (i : Nat) {P f c : Addr} {o o' oc of' : AO} (h : l[i]? = some (P, o)) (hf : H f = none) (hc : H c = none) (n : f ≠ c) : Lg H0 old (hput (hput (hput H P o') c oc) f of') ((f, of') :: (c, oc) :: l.set i (P, o')) :=
  ((L.set i h).new (none_put hc (L.get i h))).new (none_put' (none_put hf (L.get i h)) n)
theorem Lg.fn1 (L : Lg H0 old H l) (i : Nat) {f d : Addr} {o o' od : AO} (h : l[i]? = some (f, o)) (hd : H d = none) : Lg H0 old (hput (hput H d od) f o') ((d, od) :: l.set i (f, o')) :=
  (L.new hd).set (i + 1) (o := o) (by rw [List.getElem?_cons_succ]; exact h)
theorem Lg.fresh0 (L : Lg H0 old H l) (i : Nat) {a : Addr} {ao : AO} (h : l[i]? = some (a, ao)) (n : a ∉ old) : H0 a = none := (L.own _ (List.mem_of_getElem? h)).resolve_left n
/-- a part of the ledger -/
theorem Lg.ne (L : Lg H0 old H l) (i j : Nat) {a b : Addr} {x y : AO} (hi : l[i]? = some (a, x)) (hj : l[j]? = some (b, y)) (n : i ≠ j) : a ≠ b := fun z => by
  subst z
  have a1 : (l.map (·.1))[i]? = some a := by rw [List.getElem?_map, hi]; rfl
  have a2 : (l.map (·.1))[j]? = some a := by rw [List.getElem?_map, hj]; rfl
  have hi' : i < l.length := (List.getElem?_eq_some_iff.mp hi).1
  exact n ((List.getElem?_inj (by simpa using hi') L.nd).mp (a1.trans a2.symm))
end
theorem Lg.start {H : Addr → Option AO} {P : Addr} {o : AO} (h : H P = some o) : Lg H [P] H [(P, o)] :=
  ⟨by simp, fun p hp => by rw [List.mem_singleton.mp hp]; exact h, fun p hp => .inl (by rw [List.mem_singleton.mp hp]; simp), fun a ha => by rw [List.mem_singleton.mp ha, h]; nofun, But.refl _ _⟩
noncomputable def lgCells (cM cR cC cL cS : Addr) (most room : Int) (oC oL oS : Option AV) (raw : Obj) : List (Addr × AO) := [(cM, .cell (some (.int most))), (cR, .cell (some (.int room))), (cC, .cell oC), (cL, .cell oL), (cS, .cell oS), (140, .raw raw)]
noncomputable def lgLists (tu ll lc ls : Addr) (ol : AO) (r : List (Addr × AO)) : List (Addr × AO) := (tu, .tuple [.ref ls, .ref lc, .ref ll]) :: (ll, ol) :: (lc, .list []) :: (ls, .list []) :: r
noncomputable def lgFull (tu ll lc ls cM cR cC cL cS : Addr) (most room : Int) (ol : AO) (raw : Obj) : List (Addr × AO) := lgLists tu ll lc ls ol (lgCells cM cR cC cL cS most room (some (.ref lc)) (some (.ref ll)) (some (.ref ls)) raw)
noncomputable def wrFn (qw : Str) (cM cR cC cL cS : Addr) (doc pm : Value) (cw : Addr) (ctv : Value) : AO := .fn (fdWrite qw [("signs", cS), ("room", cR), ("most", cM), ("left", cL), ("calls", cC)] doc pm cw ctv) none
noncomputable def lmFn (j : Nat) (q : Str) (cC : Addr) (pm : Value) (c : Addr) (ctv : Value) : AO := .fn (fdLam j q [("calls", cC)] pm c ctv) none
noncomputable def raw1 (cw : Addr) : Obj := tabObj #[rawInt 80, rawInt 4, .ref cw]
noncomputable def raw2 (cw c₂ : Addr) : Obj := tabObj #[rawInt 80, rawInt 4, .ref cw, rawInt 90, rawInt 11, .ref c₂]
noncomputable def raw3 (cw c₂ cf : Addr) : Obj := tabObj #[rawInt 80, rawInt 4, .ref cw, rawInt 90, rawInt 11, .ref c₂, rawInt 92, rawInt 17, .ref cf]
noncomputable def raw4 (cw c₂ cf cc : Addr) : Obj := tabObj #[rawInt 80, rawInt 4, .ref cw, rawInt 90, rawInt 11, .ref c₂, rawInt 92, rawInt 17, .ref cf, rawInt 93, rawInt 17, .ref cc]
noncomputable def lg1 (wo : AO) (wr cw : Addr) (qw : Str) (r : List (Addr × AO)) : List (Addr × AO) := (wr, wo) :: (cw, .code qw) :: r
noncomputable def lg2 (tp c₂ : Addr) (fdp : FuncData) (o : Option Addr) (oc₂ : AO) (r : List (Addr × AO)) : List (Addr × AO) := (tp, .fn fdp o) :: (c₂, oc₂) :: r
noncomputable def lg3 (dt : Addr) (ns : List Str) (vs : List AV) (r : List (Addr × AO)) : List (Addr × AO) := (dt, .attrs ns vs) :: r
noncomputable def tapeAddrs (i : TapeIds) : List Addr := [i.tp, i.dt, i.wr, i.fl, i.cl, i.cw, i.cf, i.cc, i.cM, i.cR, i.cC, i.cL, i.cS, i.lc, i.ll, i.ls]
noncomputable def fTape : FnS := ⟨["write", "tape"], ["most", "room", "calls", "left", "signs"], [], []⟩
noncomputable def bTape : List Stmt := subs (nth pBody 8)
theorem kTape (w : World) : FnC fTape (fdK w 145) := ⟨by kernel_rfl!, by kernel_rfl!, by kernel_rfl!, by kernel_rfl!, by kernel_rfl!⟩
section
variable {F : FnS} {C : Cx} {σ : St} {s : Shared} {A : Around} {R : Result → Shared → Prop} {n : Nat}
theorem lawtape_spec {mv rv : Value} {most room : Int} (h : At F C σ s) (hr : Rm A (n + 2)) (hm : er mv = .int most) (hro : er rv = .int room) (hP : σ.H 140 = some (.raw (tabObj #[])))
    (k : ∀ s' H' ti tu, At F C ⟨σ.m, H'⟩ s' → TapeAt H' ti most room [] [] room → H' tu = some (.tuple [.ref ti.tp, .ref ti.ls, .ref ti.lc]) → But [140] σ.H H' → TabAt H' 140 → (∀ a ∈ tapeAddrs ti, σ.H a = none) → R (.ok (.ret (.ref tu))) s') : Cd C.w A (.call (.ref 145) ⟨[mv, rv], []⟩) R s := by
  refine am_callE (fd := fdK C.w 145) (fo := obK C.w 145) (binds := [("most", mv), ("room", rv)]) (body := bTape) h (h.K _ _ (by kernel_rfl!)) (by kernel_rfl!) (kTape _) (codeRec_of h.K (by kernel_rfl!)) (by kernel_rfl!) hr.dp [] (fun i x c hx _ => by simp [fTape] at hx) (by kernel_rfl!) fun C' s₁ hE hfa hca he h₁ E' => ?_
  have hn : (cvs (fdK C.w 145).scope.names).length = 5 := by kernel_rfl!
  rw [hn] at hca h₁
  have L0 := Lg.start hP
  -- the cells
  have cells : ∃ cM cR cC cL cS H, C'.ca = [cM, cR, cC, cL, cS] ∧ At fTape C' ⟨[none, none], H⟩ s₁ ∧ Lg σ.H [140] H [(cM, .cell none), (cR, .cell none), (cC, .cell none), (cL, .cell none), (cS, .cell none), (140, .raw (tabObj #[]))] := by
    refine ⟨C'.L + 1 + 0, C'.L + 1 + 1, C'.L + 1 + 2, C'.L + 1 + 3, C'.L + 1 + 4, _, hca, h₁, ?_⟩
    have fr : ∀ i, σ.H (C'.L + 1 + i) = none := fun i => hE.fresh _ (Nat.le_trans (Nat.le_succ _) (Nat.le_add_right _ _))
    have ci : ∀ i, i < 5 → hcells σ.H C'.L 5 (C'.L + 1 + i) = some (.cell none) := fun i hi => hcells_at hi
    have kp : Kp σ.H (hcells σ.H C'.L 5) := (Kp.refl σ.H).cells hE.fresh
    have ne : ∀ i j : Nat, i ≠ j → C'.L + 1 + i ≠ C'.L + 1 + j := fun i j n z => n (Nat.add_left_cancel z)
    have n140 : ∀ i, C'.L + 1 + i ≠ 140 := fun i z => by rw [← z, fr] at hP; cases hP
    refine ⟨?_, fun p hp => ?_, fun p hp => ?_, fun a ha => ?_, kp.but _⟩
    · simp only [List.map_cons, List.map_nil, List.nodup_cons, List.mem_cons, List.not_mem_nil, or_false, not_or, not_false_eq_true, List.nodup_nil, and_true]
      exact ⟨⟨ne _ _ (by decide), ne _ _ (by decide), ne _ _ (by decide), ne _ _ (by decide), n140 _⟩, ⟨ne _ _ (by decide), ne _ _ (by decide), ne _ _ (by decide), n140 _⟩, ⟨ne _ _ (by decide), ne _ _ (by decide), n140 _⟩, ⟨ne _ _ (by decide), n140 _⟩, n140 _⟩
    · revert p hp
      exact allC (ci 0 (by decide)) <| allC (ci 1 (by decide)) <| allC (ci 2 (by decide)) <| allC (ci 3 (by decide)) <| allC (ci 4 (by decide)) <| allC (kp _ _ hP) <| allN
    · revert p hp
      exact allC (.inr (fr 0)) <| allC (.inr (fr 1)) <| allC (.inr (fr 2)) <| allC (.inr (fr 3)) <| allC (.inr (fr 4)) <| allC (.inl (by simp)) <| allN
    · rw [List.mem_singleton.mp ha, kp _ _ hP]; nofun
  obtain ⟨cM, cR, cC, cL, cS, H, hca, h₁, L⟩ := cells
  have c0 : C'.ca[0]? = some cM := by rw [hca]; rfl
  have c1 : C'.ca[1]? = some cR := by rw [hca]; rfl
  have c2 : C'.ca[2]? = some cC := by rw [hca]; rfl
  have c3 : C'.ca[3]? = some cL := by rw [hca]; rfl
  have c4 : C'.ca[4]? = some cS := by rw [hca]; rfl
  obtain ⟨tm, rfl⟩ := er_int hm
  obtain ⟨tr, rfl⟩ := er_int hro
  refine wp_bind1 (am_storecell 0 h₁ rfl c0 (L.get 0 rfl) fun s₂ h₂ => ?_)
  have L := L.set 0 (o' := .cell (some (.int most))) rfl
  refine wp_bind1 (am_storecell 1 h₂ rfl c1 (L.get 1 rfl) fun s₃ h₃ => wp_bind0 ⟨_, h₃, ?_⟩)
  have L := L.set 1 (o' := .cell (some (.int room))) rfl
  obtain ⟨H, h₃, L⟩ : ∃ H', At fTape C' ⟨[none, none], H'⟩ s₃ ∧ Lg σ.H [140] H' (lgCells cM cR cC cL cS most room none none none (tabObj #[])) := ⟨_, h₃, L⟩
  have hcode : C'.env.code = .ref 144 := by rw [he]; kernel_rfl!
  have hC := h₃.gnd.code.1
  -- signs, calls, left = [], [], [room]
  have sw : swappedStores [.Tuple [.Name "signs" ⟨78, 4, 78, 9⟩, .Name "calls" ⟨78, 11, 78, 16⟩, .Name "left" ⟨78, 18, 78, 22⟩] 0 ⟨78, 4, 78, 22⟩] (.Tuple [.List [] ⟨78, 26, 78, 28⟩, .List [] ⟨78, 30, 78, 32⟩, .List [.Name "room" ⟨78, 35, 78, 39⟩] ⟨78, 34, 78, 40⟩] 0 ⟨78, 25, 78, 41⟩) C'.env = pure none := by rw [he]; kernel_rfl!
  refine wp_cons (wp_atup (wp_tuple (wp_sp (wp_list (wp_sp0 (am_newlist h₃ (Nat.zero_le _) fun ls s₄ f₄ h₄ => ?_))))) rfl sw)
  have L := L.new f₄ (o := .list [])
  refine wp_sp (wp_list (wp_sp0 (am_newlist h₄ (Nat.zero_le _) fun lc s₅ f₅ h₅ => ?_)))
  have L := L.new f₅ (o := .list [])
  refine wp_sp (wp_list (wp_sp (am_cell 1 h₅ rfl c1 (L.get 3 rfl) fun rv' er' => wp_sp0 (am_newlist h₅ (Nat.le_succ_of_le (Nat.succ_le_of_lt (by decide))) fun ll s₆ f₆ h₆ => ?_))))
  obtain ⟨tr', rfl⟩ := er_int er'
  have L := L.new f₆ (o := .list [.int room])
  refine wp_sp0 (am_newtuple h₆ (by simp) fun tu s₇ f₇ h₇ => ?_)
  have L := L.new f₇ (o := .tuple [.ref ls, .ref lc, .ref ll])
  obtain ⟨H, h₇, L⟩ : ∃ H', At fTape C' ⟨[none, none], H'⟩ s₇ ∧ Lg σ.H [140] H' (lgLists tu ll lc ls (.list [.int room]) (lgCells cM cR cC cL cS most room none none none (tabObj #[]))) := ⟨_, h₇, L⟩
  refine am_untuple h₇ hr.hand (L.get 0 rfl) rfl rfl fun vs s₈ evs h₈ => ?_
  obtain ⟨v1, v2, v3, rfl, ev1, ev2, ev3⟩ := ers3 evs
  cases er_ref ev1
  cases er_ref ev2
  cases er_ref ev3
  refine wp_ino (wp_asgn (am_storecell 4 h₈ rfl c4 (L.get 8 rfl) fun s₉ h₉ => ?_))
  have L := L.set 8 (o' := .cell (some (.ref ls))) rfl
  refine wp_ino (wp_asgn (am_storecell 2 h₉ rfl c2 (L.get 6 rfl) fun s₁₀ h₁₀ => ?_))
  have L := L.set 6 (o' := .cell (some (.ref lc))) rfl
  refine wp_ino (wp_asgn (am_storecell 3 h₁₀ rfl c3 (L.get 7 rfl) fun s₁₁ h₁₁ => wp_ino0 ?_))
  have L := L.set 7 (o' := .cell (some (.ref ll))) rfl
  obtain ⟨H, h₁₁, L⟩ : ∃ H', At fTape C' ⟨[none, none], H'⟩ s₁₁ ∧ Lg σ.H [140] H' (lgFull tu ll lc ls cM cR cC cL cS most room (.list [.int room]) (tabObj #[])) := ⟨_, h₁₁, L⟩
  -- def write
  have caps : Caps fTape C' ["calls", "left", "most", "room", "signs"] [cC, cL, cM, cR, cS] := .cons 2 rfl c2 (.cons 3 rfl c3 (.cons 0 rfl c0 (.cons 1 rfl c1 (.cons 4 rfl c4 .nil))))
  refine wp_cons (wp_def rfl rfl rfl (am_mkdef h₁₁ hcode hC (L.get 9 rfl) trivial rfl (clos_of (scope := fdScope stWrite) ["calls", "left", "most", "room", "signs"] [cC, cL, cM, cR, cS] h₁₁.env caps (by kernel_rfl!)) fun wr cw s₁₂ doc pm ctv hf hc' nfc h₁₂ => am_store 0 h₁₂ rfl fun s₁₃ h₁₃ => ?_))
  have L := L.mk3 9 (f := wr) (c := cw) (o' := .raw (raw1 cw)) (oc := .code (qualnameIn C'.env "write" "write")) (of' := .fn (fdWrite (qualnameIn C'.env "write" "write") [("signs", cS), ("room", cR), ("most", cM), ("left", cL), ("calls", cC)] doc pm cw ctv) none) rfl hf hc' nfc
  obtain ⟨H, qw, h₁₃, L⟩ : ∃ H' qual, At fTape C' ⟨[some (.ref wr), none], H'⟩ s₁₃ ∧ Lg σ.H [140] H' (lg1 (wrFn qual cM cR cC cL cS doc pm cw ctv) wr cw qual (lgFull tu ll lc ls cM cR cC cL cS most room (.list [.int room]) (raw1 cw))) := ⟨_, _, h₁₃, L⟩
  -- tape = lambda: None
  refine wp_cons (wp_assign (am_mklam h₁₃ hcode hC (L.get 11 rfl) trivial rfl (clos_of [] [] h₁₃.env .nil rfl) rfl fun tp c₂ s₁₄ pm₂ ctv₂ hf hc' nfc h₁₄ => am_store 1 h₁₄ rfl fun s₁₅ h₁₅ => ?_))
  have L := L.mk3 11 (f := tp) (c := c₂) (o' := .raw (raw2 cw c₂)) (oc := .code (C'.env.qual ++ "<lambda>")) (of' := .fn (fdLam 2 (C'.env.qual ++ "<lambda>") [] pm₂ c₂ ctv₂) none) rfl hf hc' nfc
  obtain ⟨H, fdp, oc₂, h₁₅, L⟩ : ∃ H' fdp oc₂, At fTape C' ⟨[some (.ref wr), some (.ref tp)], H'⟩ s₁₅ ∧ Lg σ.H [140] H' (lg2 tp c₂ fdp none oc₂ (lg1 (wrFn qw cM cR cC cL cS doc pm cw ctv) wr cw qw (lgFull tu ll lc ls cM cR cC cL cS most room (.list [.int room]) (raw2 cw c₂)))) := ⟨_, _, _, h₁₅, L⟩
  -- tape.write = write
  refine wp_cons (wp_setattr (am_local 0 h₁₅ rfl rfl fun v e => am_local 1 h₁₅ rfl rfl fun v₂ e₂ => ?_))
  cases er_ref e
  cases er_ref e₂
  refine am_fnset1 h₁₅ (L.get 0 rfl) nowrite fun dt s₁₆ hd nd h₁₆ => ?_
  have L := L.fn1 0 (d := dt) (o' := .fn fdp (some dt)) (od := .attrs ["write"] [.ref wr]) rfl hd
  obtain ⟨H, h₁₆, L⟩ : ∃ H', At fTape C' ⟨[some (.ref wr), some (.ref tp)], H'⟩ s₁₆ ∧ Lg σ.H [140] H' (lg3 dt ["write"] [.ref wr] (lg2 tp c₂ fdp (some dt) oc₂ (lg1 (wrFn qw cM cR cC cL cS doc pm cw ctv) wr cw qw (lgFull tu ll lc ls cM cR cC cL cS most room (.list [.int room]) (raw2 cw c₂))))) := ⟨_, h₁₆, L⟩
  -- tape.flush = lambda: ..
  have caps : Caps fTape C' ["calls"] [cC] := .cons 2 rfl c2 .nil
  refine wp_cons (wp_setattr (am_mklam h₁₆ hcode hC (L.get 14 rfl) trivial rfl (clos_of (scope := lamScope (lamT 4)) ["calls"] [cC] h₁₆.env caps (by kernel_rfl!)) rfl fun fl cf s₁₇ pm₃ ctv₃ hf hc' nfc h₁₇ => am_local 1 h₁₇ rfl rfl fun v₂ e₂ => ?_))
  cases er_ref e₂
  have L := L.mk3 14 (f := fl) (c := cf) (o' := .raw (raw3 cw c₂ cf)) (oc := .code (C'.env.qual ++ "<lambda>")) (of' := .fn (fdLam 4 (C'.env.qual ++ "<lambda>") [("calls", cC)] pm₃ cf ctv₃) none) rfl hf hc' nfc
  refine am_fnset2 h₁₇ (L.get 3 rfl) (L.get 2 rfl) (by decide) (by decide) noflush fun s₁₈ h₁₈ => ?_
  have L := L.set 2 (o' := .attrs ["write", "flush"] [.ref wr, .ref fl]) rfl
  obtain ⟨H, qf, h₁₈, L⟩ : ∃ H' qf, At fTape C' ⟨[some (.ref wr), some (.ref tp)], H'⟩ s₁₈ ∧ Lg σ.H [140] H' (lg1 (lmFn 4 qf cC pm₃ cf ctv₃) fl cf qf (lg3 dt ["write", "flush"] [.ref wr, .ref fl] (lg2 tp c₂ fdp (some dt) oc₂ (lg1 (wrFn qw cM cR cC cL cS doc pm cw ctv) wr cw qw (lgFull tu ll lc ls cM cR cC cL cS most room (.list [.int room]) (raw3 cw c₂ cf)))))) := ⟨_, _, h₁₈, L⟩
  -- tape.close = lambda: ..
  refine wp_cons (wp_setattr (am_mklam h₁₈ hcode hC (L.get 16 rfl) trivial rfl (clos_of (scope := lamScope (lamT 5)) ["calls"] [cC] h₁₈.env caps (by kernel_rfl!)) rfl fun cl cc s₁₉ pm₄ ctv₄ hf hc' nfc h₁₉ => am_local 1 h₁₉ rfl rfl fun v₂ e₂ => ?_))
  cases er_ref e₂
  have L := L.mk3 16 (f := cl) (c := cc) (o' := .raw (raw4 cw c₂ cf cc)) (oc := .code (C'.env.qual ++ "<lambda>")) (of' := .fn (fdLam 5 (C'.env.qual ++ "<lambda>") [("calls", cC)] pm₄ cc ctv₄) none) rfl hf hc' nfc
  refine am_fnset2 h₁₉ (L.get 5 rfl) (L.get 4 rfl) (by decide) (by decide) noclose fun s₂₀ h₂₀ => ?_
  have L := L.set 4 (o' := .attrs tapeNames [.ref wr, .ref fl, .ref cl]) rfl
  -- the left room as a vec
  have h₂₀ := h₂₀.recast (L.get 10 rfl) isVec_of
  have L := L.set 10 (o' := .vec [.int room]) rfl
  obtain ⟨H, qc, h₂₀, L⟩ : ∃ H' qc, At fTape C' ⟨[some (.ref wr), some (.ref tp)], H'⟩ s₂₀ ∧ Lg σ.H [140] H' (lg1 (lmFn 5 qc cC pm₄ cc ctv₄) cl cc qc (lg1 (lmFn 4 qf cC pm₃ cf ctv₃) fl cf qf (lg3 dt tapeNames [.ref wr, .ref fl, .ref cl] (lg2 tp c₂ fdp (some dt) oc₂ (lg1 (wrFn qw cM cR cC cL cS doc pm cw ctv) wr cw qw (lgFull tu ll lc ls cM cR cC cL cS most room (.vec [.int room]) (raw4 cw c₂ cf cc))))))) := ⟨_, _, h₂₀, L⟩
  -- return
  refine wp_cons (wp_ret (wp_tuple (wp_sp (am_local 1 h₂₀ rfl rfl fun v1 e1 => wp_sp (am_cell 4 h₂₀ rfl c4 (L.get 17 rfl) fun v2 e2 => wp_sp (am_cell 2 h₂₀ rfl c2 (L.get 15 rfl) fun v3 e3 => wp_sp0 (am_newtuple h₂₀ (by simp) fun tt s₂₁ hD h₂₁ => ?_)))))))
  cases er_ref e1
  cases er_ref e2
  cases er_ref e3
  have fr : ∀ (j : Nat) (a : Addr) (ao : AO), j ≠ 18 → (lg1 (lmFn 5 qc cC pm₄ cc ctv₄) cl cc qc (lg1 (lmFn 4 qf cC pm₃ cf ctv₃) fl cf qf (lg3 dt tapeNames [.ref wr, .ref fl, .ref cl] (lg2 tp c₂ fdp (some dt) oc₂ (lg1 (wrFn qw cM cR cC cL cS doc pm cw ctv) wr cw qw (lgFull tu ll lc ls cM cR cC cL cS most room (.vec [.int room]) (raw4 cw c₂ cf cc)))))))[j]? = some (a, ao) → σ.H a = none := fun j a ao hj e =>
    L.fresh0 j e (by rw [List.mem_singleton]; exact L.ne j 18 e rfl hj)
  have ne := L.ne 11 12 rfl rfl (by decide)
  have L := L.new hD (o := .tuple [.ref tp, .ref ls, .ref lc])
  refine back_ret h₂₁ fun h₂₂ => k _ _ ⟨tp, dt, wr, fl, cl, cw, cf, cc, cM, cR, cC, cL, cS, lc, ll, ls⟩ tt h₂₂ ?_ (hput_self _ _ _) L.but ⟨_, L.get 19 rfl⟩ ?_
  case refine_2 =>
    exact allC (fr 5 _ _ (by decide) rfl) <| allC (fr 4 _ _ (by decide) rfl) <| allC (fr 7 _ _ (by decide) rfl) <| allC (fr 2 _ _ (by decide) rfl) <| allC (fr 0 _ _ (by decide) rfl) <| allC (fr 8 _ _ (by decide) rfl) <| allC (fr 3 _ _ (by decide) rfl) <| allC (fr 1 _ _ (by decide) rfl) <| allC (fr 13 _ _ (by decide) rfl) <| allC (fr 14 _ _ (by decide) rfl) <| allC (fr 15 _ _ (by decide) rfl) <| allC (fr 16 _ _ (by decide) rfl) <| allC (fr 17 _ _ (by decide) rfl) <| allC (fr 11 _ _ (by decide) rfl) <| allC (fr 10 _ _ (by decide) rfl) <| allC (fr 12 _ _ (by decide) rfl) <| allN
  exact ⟨⟨fdp, L.get 6 rfl⟩, L.get 5 rfl, ⟨qw, doc, pm, ctv, L.get 8 rfl, L.get 9 rfl⟩, ⟨qf, pm₃, ctv₃, L.get 3 rfl, L.get 4 rfl⟩, ⟨qc, pm₄, ctv₄, L.get 1 rfl, L.get 2 rfl⟩, L.get 14 rfl, L.get 15 rfl, L.get 16 rfl, L.get 17 rfl, L.get 18 rfl, L.get 12 rfl, L.get 11 rfl, L.get 13 rfl, ne⟩
end
end Mine

end
section
open PySem PySem.W PyProof.Rows PySem.Calls PyProof.Rows.LCg
set_option linter.unusedVariables false
namespace Mine
noncomputable def hrm (H : Addr → Option AO) (a b : Addr) : Addr → Option AO := fun c => if c = a ∨ c = b then none else H c
theorem hrm_put2 {H : Addr → Option AO} {a b : Addr} {o : AO} : hrm (hput H b o) a b = hrm H a b := by
  funext c; unfold hrm
  by_cases h : c = a ∨ c = b
  · rw [if_pos h, if_pos h]
  · rw [if_neg h, if_neg h]; exact hput_ne fun z => h (.inr z)
theorem hrm_put1 {H : Addr → Option AO} {a b : Addr} {o : AO} : hrm (hput H a o) a b = hrm H a b := by
  funext c; unfold hrm
  by_cases h : c = a ∨ c = b
  · rw [if_pos h, if_pos h]
  · rw [if_neg h, if_neg h]; exact hput_ne fun z => h (.inl z)
theorem hrm_del1 {H : Addr → Option AO} {a b : Addr} : hrm (hdel H a) a b = hrm H a b := by
  funext c; unfold hrm hdel
  by_cases h : c = a ∨ c = b
  · rw [if_pos h, if_pos h]
  · rw [if_neg h, if_neg h, if_neg fun z => h (.inl z)]
section
variable {F F' : FnS} {C : Cx} {σ : St} {s₂ : Shared} {A : Around} {scope : Scope} {cap : List Str} {capa : List Addr} {elt iter : Expr} {ifs : List Expr} {pos xp : Pos} {x : Str} {ita : Addr}
/-- a list comprehension over a source of N items, that turns nothing that is known -/
theorem comp_src {End : Addr → (Addr → Option AO) → List (Option AV) → Prop} (hF : F'.nm = [x]) (hcv : cvs scope.names = []) (N : Nat) (kf : Nat → ItK) (item : Nat → AV) (Out : Nat → List AV → (Addr → Option AO) → Prop) (h : At F C σ s₂) (hit : σ.H ita = some (.it (kf 0))) (hw : (kf 0).walk = true)
    (mono : ∀ j xs H H', Out j xs H → Kp H H' → Out j xs H') (out0 : ∀ H, Out 0 [] H) (olen : ∀ j xs H, Out j xs H → xs.length ≤ 100000)
    (nx : ∀ j (C' : Cx) (σ' : St) s' (Q : Option Value → Shared → Prop), j < N → C'.w = C.w → But [ita] σ.H σ'.H → At F' C' σ' s' → σ'.H ita = some (.it (kf j)) → (∀ v s'', er v = item j → At F' C' (σ'.put ita (.it (kf (j + 1)))) s'' → Q (some v) s'') → Wp C'.w A (pyNext (.ref ita)) Q (fun _ _ => False) s')
    (fin : ∀ (C' : Cx) (σ' : St) s' (Q : Option Value → Shared → Prop), C'.w = C.w → But [ita] σ.H σ'.H → At F' C' σ' s' → σ'.H ita = some (.it (kf N)) → (∀ s'', At F' C' ⟨σ'.m, hdel σ'.H ita⟩ s'' → Q none s'') → Wp C'.w A (pyNext (.ref ita)) Q (fun _ _ => False) s')
    (body : ∀ j (C' : Cx) H' D xs s', j < N → C'.w = C.w → C'.ca = capa → But [ita] σ.H H' → σ.H D = none → H' D = some (.list xs) → Out j xs (hrm H' ita D) → H' ita = some (.it (kf (j + 1))) → At F' C' ⟨[some (item j)], H'⟩ s' → Wp C'.w A (tests ifs C'.env) (fun ok s₃ => if ok then
          Wp C'.w A (eval elt C'.env) (fun v s₄ => ∃ H'', Kp H' H'' ∧ At F' C' ⟨[some (item j)], H''⟩ s₄ ∧ Out (j + 1) (xs ++ [er v]) (hrm H'' ita D)) (fun _ _ => False) s₃
        else ∃ H'', Kp H' H'' ∧ At F' C' ⟨[some (item j)], H''⟩ s₃ ∧ Out (j + 1) xs (hrm H'' ita D)) (fun _ _ => False) s')
    (done : ∀ D H xs, But [ita] σ.H H → σ.H D = none → H D = some (.list xs) → Out N xs (hrm H ita D) → End D H σ.m)
    (ht : ∀ it v, letOwnedTupleGo (.Name x xp) it v = pure () := by intro _ _; rfl) :
    CompRun A F F' C (.ListComp elt [⟨.Name x xp, iter, ifs, 0⟩] scope pos) scope capa (.ref ita) s₂ End := by
  refine ⟨σ, ita, kf 0, h, rfl, hit, hw, fun D C' s₄ hD hE hca h₄ => ?_⟩
  have hca : C'.ca = capa := by rw [hca, hcv]; rfl
  have e0 : hcells (hput σ.H D (.list [])) C'.L (cvs scope.names).length = hput σ.H D (.list []) := by
    funext a; unfold hcells; rw [hcv]; exact if_neg fun z => absurd (Nat.lt_of_lt_of_le z.1 z.2) (Nat.lt_irrefl _)
  rw [e0, hF] at h₄
  have hne : ita ≠ D := fun z => by rw [z, hD] at hit; cases hit
  have hx : F'.nm[0]? = some x := by rw [hF]; rfl
  refine cd_comp (F := F') (fun n σ' => ∃ j xv H' xs, j + n = N ∧ σ' = ⟨[xv], H'⟩ ∧ But [ita] σ.H H' ∧ H' ita = some (.it (kf j)) ∧ H' D = some (.list xs) ∧ Out j xs (hrm H' ita D)) (fun n σ' s hI h₅ => ?_) N
    ⟨0, none, _, [], by omega, rfl, (But.refl _ _).put (.inr hD), put_new hit hD, hput_self _ _ _, out0 _⟩ h₄ (ht _)
  obtain ⟨j, xv, H', xs, hj, rfl, bt, hi, hd, ho⟩ := hI
  cases n with
  | zero =>
    have : j = N := by omega
    subst this
    refine fin C' _ s _ hE.w bt h₅ hi fun s₆ h₆ => ⟨_, h₆, ?_⟩
    refine done D (hdel H' ita) xs (fun a ao na e => ?_) hD ?_ (by rw [hrm_del1]; exact ho)
    · unfold hdel; rw [if_neg fun z => na (by rw [z]; simp)]; exact bt a ao na e
    · unfold hdel; rw [if_neg hne.symm]; exact hd
  | succ n =>
    refine nx j C' _ s _ (by omega) hE.w bt h₅ hi fun v s₆ ev h₆ => ?_
    refine wp_asgn (am_store 0 h₆ hx fun s₇ h₇ => ?_)
    rw [ev] at h₇
    have h₇ : At F' C' ⟨[some (item j)], hput H' ita (.it (kf (j + 1)))⟩ s₇ := h₇
    have bt7 : But [ita] σ.H (hput H' ita (.it (kf (j + 1)))) := bt.put (.inl (by simp))
    have hd7 : hput H' ita (.it (kf (j + 1))) D = some (.list xs) := put_keep hd hne.symm
    refine (body j C' _ D xs s₇ (by omega) hE.w hca bt7 hD hd7 (by rw [hrm_put1]; exact ho) (hput_self _ _ _) h₇).mono fun ok s₈ q => ?_
    cases ok with
    | true =>
      rw [if_pos rfl] at q ⊢
      refine q.mono fun w s₉ ⟨H'', kp, h₉, ho9⟩ => ?_
      have hd9 := kp _ _ hd7
      refine am_append h₉ hd9 (Nat.le_trans (olen _ _ _ ho) (by decide)) fun s₁₀ h₁₀ => ⟨n, _, by omega, ⟨j + 1, _, _, xs ++ [er w], by omega, rfl, ?_, ?_, hput_self _ _ _, by rw [hrm_put2]; exact ho9⟩, h₁₀⟩
      · exact But.put (fun a ao na e => kp _ _ (bt7 a ao na e)) (.inr hD)
      · exact put_keep (kp _ _ (hput_self _ _ _)) hne
    | false =>
      rw [if_neg (by decide)] at q ⊢
      obtain ⟨H'', kp, h₉, ho9⟩ := q
      exact ⟨n, _, by omega, ⟨j + 1, _, _, xs, by omega, rfl, fun a ao na e => kp _ _ (bt7 a ao na e), kp _ _ (hput_self _ _ _), kp _ _ hd7, ho9⟩, h₉⟩
theorem src_range_nx {a st : Int} {N j : Nat} {C' : Cx} {σ' : St} {s' : Shared} {Q : Option Value → Shared → Prop} {E : Value → Shared → Prop} (hj : j < N) (h : At F' C' σ' s') (hi : σ'.H ita = some (.it (.range (a + st * j) ((N : Int) - j) st)))
    (k : ∀ v s'', er v = .int (a + st * j) → At F' C' (σ'.put ita (.it (.range (a + st * (j + 1 : Nat)) ((N : Int) - (j + 1 : Nat)) st))) s'' → Q (some v) s'') : Wp C'.w A (pyNext (.ref ita)) Q E s' := by
  refine am_next_range h hi (by omega) fun v s'' ev h' => k v s'' ev ?_
  have e1 : a + st * (j : Int) + st = a + st * ((j + 1 : Nat) : Int) := by rw [Int.natCast_add, Int.mul_add]; omega
  have e2 : ((N : Int) - j - 1) = (N : Int) - ((j + 1 : Nat) : Int) := by omega
  rw [e1, e2] at h'
  exact h'
theorem src_range_fin {a st : Int} {N : Nat} {C' : Cx} {σ' : St} {s' : Shared} {Q : Option Value → Shared → Prop} {E : Value → Shared → Prop} (hh : A.handled = none) (h : At F' C' σ' s') (hi : σ'.H ita = some (.it (.range (a + st * (N : Nat)) ((N : Int) - (N : Nat)) st)))
    (k : ∀ s'', At F' C' ⟨σ'.m, hdel σ'.H ita⟩ s'' → Q none s'') : Wp C'.w A (pyNext (.ref ita)) Q E s' := am_end_range h hh hi (by omega) k
end
end Mine

end
local macro_rules | `(tactic| trivial) => `(tactic| first | exact Mine.memI 0 rfl | exact Mine.memI 1 rfl | exact Mine.memI 2 rfl | exact Mine.memI 3 rfl | exact Mine.memI 4 rfl | exact Mine.memI 5 rfl | exact Mine.memI 6 rfl | exact Mine.memI 7 rfl | exact Mine.memI 8 rfl | exact Mine.memI 9 rfl | exact Mine.memI 10 rfl | exact Mine.memI 11 rfl | exact Mine.memI 12 rfl | exact Mine.memI 13 rfl | exact Mine.memI 14 rfl | exact Mine.memI 15 rfl | exact Mine.memI 16 rfl)
section
open PySem PySem.W PyProof.Rows PySem.Calls PyProof.Rows.LCg
set_option linter.unusedVariables false
namespace Mine
/-- what lies there lies there still -/
noncomputable def Ag (g : List Addr) (H H' : Addr → Option AO) : Prop := ∀ a ∈ g, ∀ ao, H a = some ao → H' a = some ao
theorem Kp.ag {H H' : Addr → Option AO} (k : Kp H H') (g : List Addr) : Ag g H H' := fun a _ ao e => k a ao e
theorem But.ag {l g : List Addr} {H H' : Addr → Option AO} (b : But l H H') (n : ∀ a ∈ g, a ∉ l) : Ag g H H' := fun a ha ao e => b a ao (n a ha) e
section
variable {H H' : Addr → Option AO} {l : LexIds} {text rest : List Nat} {pos : Nat} {line : Int} {pb : List (List Nat)}
theorem LexAt.agree (S : LexAt H l text pos line pb) (k : Ag (lexAddrs l) H H') : LexAt H' l text pos line pb := by
  obtain ⟨x, dx, pbh, st, ap⟩ := S
  obtain ⟨⟨fd, S1⟩, S2, ⟨qual, doc, pm, ctv, S3, S4⟩, S5, S6, S7⟩ := st
  have kk : ∀ {a ao}, a ∈ lexAddrs l → H a = some ao → H' a = some ao := fun m e => k _ m _ e
  exact ⟨kk (by first | trivial | simp [lexAddrs]) x, kk (by first | trivial | simp [lexAddrs]) dx, kk (by first | trivial | simp [lexAddrs]) pbh, ⟨⟨fd, kk (by first | trivial | simp [lexAddrs]) S1⟩, kk (by first | trivial | simp [lexAddrs]) S2, ⟨qual, doc, pm, ctv, kk (by first | trivial | simp [lexAddrs]) S3, kk (by first | trivial | simp [lexAddrs]) S4⟩, kk (by first | trivial | simp [lexAddrs]) S5, kk (by first | trivial | simp [lexAddrs]) S6, kk (by first | trivial | simp [lexAddrs]) S7⟩, ap⟩
theorem LexR.agree (S : LexR H l text rest pb) (k : Ag (lexAddrs l) H H') : LexR H' l text rest pb :=
  let ⟨pre, e, S⟩ := S; ⟨pre, e, S.agree k⟩
theorem LexR.known (S : LexR H l text rest pb) : ∀ a ∈ lexAddrs l, H a ≠ none := by
  obtain ⟨pre, e, x, dx, pbh, ⟨⟨fd, S1⟩, S2, ⟨qual, doc, pm, ctv, S3, S4⟩, S5, S6, S7⟩, ap⟩ := S
  have c : ∀ {a ao}, H a = some ao → H a ≠ none := fun e z => by rw [e] at z; cases z
  exact allC (c x) <| allC (c dx) <| allC (c pbh) <| allC (c S1) <| allC (c S2) <| allC (c S3) <| allC (c S4) <| allC (c (by first | exact S5 | exact S6 | exact S7)) <| allC (c (by first | exact S5 | exact S6 | exact S7)) <| allC (c (by first | exact S5 | exact S6 | exact S7)) allN
end
section
variable {H H' : Addr → Option AO} {i : TapeIds} {most room left : Int} {signs calls : List (List Nat)}
theorem TapeAt.agree (T : TapeAt H i most room signs calls left) (k : Ag (tapeAddrs i) H H') : TapeAt H' i most room signs calls left := by
  obtain ⟨⟨fd, tp⟩, dt, ⟨q1, d1, p1, c1, wr, cw⟩, ⟨q2, p2, c2, fl, cf⟩, ⟨q3, p3, c3, cl, cc⟩, cM, cR, cC, cL, cS, lc, ll, ls, ne⟩ := T
  have kk : ∀ {a ao}, a ∈ tapeAddrs i → H a = some ao → H' a = some ao := fun m e => k _ m _ e
  exact ⟨⟨fd, kk (by first | trivial | simp [tapeAddrs]) tp⟩, kk (by first | trivial | simp [tapeAddrs]) dt, ⟨q1, d1, p1, c1, kk (by first | trivial | simp [tapeAddrs]) wr, kk (by first | trivial | simp [tapeAddrs]) cw⟩, ⟨q2, p2, c2, kk (by first | trivial | simp [tapeAddrs]) fl, kk (by first | trivial | simp [tapeAddrs]) cf⟩, ⟨q3, p3, c3, kk (by first | trivial | simp [tapeAddrs]) cl, kk (by first | trivial | simp [tapeAddrs]) cc⟩, kk (by first | trivial | simp [tapeAddrs]) cM, kk (by first | trivial | simp [tapeAddrs]) cR, kk (by first | trivial | simp [tapeAddrs]) cC, kk (by first | trivial | simp [tapeAddrs]) cL, kk (by first | trivial | simp [tapeAddrs]) cS, kk (by first | trivial | simp [tapeAddrs]) lc, kk (by first | trivial | simp [tapeAddrs]) ll, kk (by first | trivial | simp [tapeAddrs]) ls, ne⟩
theorem TapeAt.known (T : TapeAt H i most room signs calls left) : ∀ a ∈ tapeAddrs i, H a ≠ none := by
  obtain ⟨⟨fd, tp⟩, dt, ⟨q1, d1, p1, c1, wr, cw⟩, ⟨q2, p2, c2, fl, cf⟩, ⟨q3, p3, c3, cl, cc⟩, cM, cR, cC, cL, cS, lc, ll, ls, ne⟩ := T
  have c : ∀ {a ao}, H a = some ao → H a ≠ none := fun e z => by rw [e] at z; cases z
  exact allC (c tp) <| allC (c dt) <| allC (c wr) <| allC (c fl) <| allC (c cl) <| allC (c cw) <| allC (c cf) <| allC (c cc) <| allC (c cM) <| allC (c cR) <| allC (c cC) <| allC (c cL) <| allC (c cS) <| allC (c lc) <| allC (c ll) <| allC (c ls) <| allN
end
noncomputable def treeAddrs (t : Tree) (N : Nat) : List Addr := (List.range N).map (fun j => t.X (j + 1)) ++ (List.range N).map (fun j => t.D (j + 1))
theorem tree_X {t : Tree} {N i : Nat} (h1 : 1 ≤ i) (h2 : i ≤ N) : t.X i ∈ treeAddrs t N :=
  List.mem_append_left _ (List.mem_map.mpr ⟨i - 1, List.mem_range.mpr (by omega), by congr 1; omega⟩)
theorem tree_D {t : Tree} {N i : Nat} (h1 : 1 ≤ i) (h2 : i ≤ N) : t.D i ∈ treeAddrs t N :=
  List.mem_append_right _ (List.mem_map.mpr ⟨i - 1, List.mem_range.mpr (by omega), by congr 1; omega⟩)
section
variable {H H' : Addr → Option AO} {t : Tree} {tp : Addr} {N : Nat} {offs : Nat → Int}
theorem TreeAt.agree (U : TreeAt H t tp N offs) (k : Ag (treeAddrs t N) H H') : TreeAt H' t tp N offs :=
  ⟨fun i a b => k _ (tree_X a b) _ (U.x i a b), fun i a b => k _ (tree_D a b) _ (U.d i a b), U.inj⟩
theorem TreeAt.known (U : TreeAt H t tp N offs) : ∀ a ∈ treeAddrs t N, H a ≠ none := fun a ha => by
  rcases List.mem_append.mp ha with ha | ha <;> obtain ⟨j, hj, rfl⟩ := List.mem_map.mp ha <;> rw [List.mem_range] at hj
  · rw [U.x (j + 1) (by omega) (by omega)]; nofun
  · rw [U.d (j + 1) (by omega) (by omega)]; nofun
end
/-- the books: tuples of a length and a list of ints -/
noncomputable def BooksAt (H : Addr → Option AO) (xs : List AV) (bs : List (Nat × List Int)) (ba : List Addr) : Prop :=
  xs.length = bs.length ∧ ∀ (i : Nat) n told, bs[i]? = some (n, told) → ∃ a l, xs[i]? = some (.ref a) ∧ a ∈ ba ∧ l ∈ ba ∧ H a = some (.tuple [.int (n : Nat), .ref l]) ∧ H l = some (.list (told.map AV.int))
theorem BooksAt.agree {H H' : Addr → Option AO} {xs : List AV} {bs : List (Nat × List Int)} {ba : List Addr} (B : BooksAt H xs bs ba) (k : Ag ba H H') : BooksAt H' xs bs ba :=
  ⟨B.1, fun i n told e => let ⟨a, l, q1, q2, q3, q4, q5⟩ := B.2 i n told e; ⟨a, l, q1, q2, q3, k _ q2 _ q4, k _ q3 _ q5⟩⟩
theorem BooksAt.snoc {H : Addr → Option AO} {xs : List AV} {bs : List (Nat × List Int)} {ba : List Addr} (B : BooksAt H xs bs ba) {a l : Addr} {n : Nat} {told : List Int} (ha : H a = some (.tuple [.int n, .ref l])) (hl : H l = some (.list (told.map AV.int))) : BooksAt H (xs ++ [.ref a]) (bs ++ [(n, told)]) (a :: l :: ba) := by
  refine ⟨by simp [B.1], fun i m td e => ?_⟩
  by_cases hi : i < bs.length
  · rw [List.getElem?_append_left hi] at e
    obtain ⟨a', l', q1, q2, q3, q4, q5⟩ := B.2 i m td e
    exact ⟨a', l', by rw [List.getElem?_append_left (by rw [B.1]; exact hi)]; exact q1, .tail _ (.tail _ q2), .tail _ (.tail _ q3), q4, q5⟩
  · rw [List.getElem?_append_right (Nat.le_of_not_lt hi)] at e
    have hi0 : i - bs.length = 0 := by
      have := (List.getElem?_eq_some_iff.mp e).1
      simp at this; omega
    rw [hi0] at e
    simp only [List.getElem?_cons_zero, Option.some.injEq, Prod.mk.injEq] at e
    obtain ⟨rfl, rfl⟩ := e
    refine ⟨a, l, ?_, .head _, .tail _ (.head _), ha, hl⟩
    rw [List.getElem?_append_right (by rw [B.1]; omega), B.1, hi0]; rfl
/-- groups of addresses, apart -/
noncomputable def Aps (G : List (List Addr)) : Prop := ∀ i j x, i ≠ j → x ∈ G.getD i [] → x ∉ G.getD j []
theorem Aps.nil : Aps [] := fun i j x _ h => by simp at h
theorem Aps.cons {G : List (List Addr)} {g : List Addr} (A : Aps G) (h : ∀ x ∈ g, ∀ g' ∈ G, x ∉ g') : Aps (g :: G) := fun i j x n hi hj => by
  have mem : ∀ k, x ∈ G.getD k [] → ∃ g' ∈ G, x ∈ g' := fun k hk => by
    rw [List.getD_eq_getElem?_getD] at hk
    cases e : G[k]? with
    | none => rw [e] at hk; simp at hk
    | some g' => rw [e] at hk; exact ⟨g', List.mem_of_getElem? e, hk⟩
  cases i with
  | zero =>
    cases j with
    | zero => exact n rfl
    | succ j =>
      rw [List.getD_cons_zero] at hi
      rw [List.getD_cons_succ] at hj
      obtain ⟨g', h1, h2⟩ := mem j hj
      exact h x hi g' h1 h2
  | succ i =>
    cases j with
    | zero =>
      rw [List.getD_cons_zero] at hj
      rw [List.getD_cons_succ] at hi
      obtain ⟨g', h1, h2⟩ := mem i hi
      exact h x hj g' h1 h2
    | succ j =>
      rw [List.getD_cons_succ] at hi hj
      exact A i j x (fun z => n (by rw [z])) hi hj
theorem Aps.tail {G : List (List Addr)} {g : List Addr} (A : Aps (g :: G)) : Aps G := fun i j x n hi hj => A (i + 1) (j + 1) x (fun z => n (Nat.succ.inj z)) (by rw [List.getD_cons_succ]; exact hi) (by rw [List.getD_cons_succ]; exact hj)
theorem Aps.grow {G : List (List Addr)} {g g₂ : List Addr} (A : Aps (g :: G)) (h : ∀ x ∈ g₂, ∀ g' ∈ G, x ∉ g') : Aps ((g₂ ++ g) :: G) := A.tail.cons fun x hx g' hg' => by
  rcases List.mem_append.mp hx with hx | hx
  · exact h x hx g' hg'
  · obtain ⟨k, hk⟩ := List.getElem?_of_mem hg'
    have := A 0 (k + 1) x (by omega) (by rw [List.getD_cons_zero]; exact hx)
    rw [List.getD_cons_succ, List.getD_eq_getElem?_getD, hk] at this
    exact this

/-- the machine that the loop over the accounts is -/
structure MS where
  rest : List Nat
  pb : List (List Nat)
  left : Int
  signs : List (List Nat)
  offs : Nat → Int
  books : List (Nat × List Int)
  refused : List (List Nat)
noncomputable def told (offs : Nat → Int) (N : Nat) : List Int := (List.range N).map fun j => offs (j + 1)
noncomputable def getTok (pb : List (List Nat)) (rest : List Nat) : List Nat × List (List Nat) × List Nat := match pb with
  | t :: pb => (t, pb, rest)
  | [] => ((token rest).1, [], (token rest).2)
noncomputable def known (names : List (List Nat)) (name : List Nat) : List Nat := (List.range names.length).filter fun i => names[i]? == some name
/-- one text is written through account a; how much is taken -/
noncomputable def writeM (N : Nat) (most room : Int) (a : Nat) (text : List Nat) (ms : MS) : MS × Nat :=
  if text ≠ [] ∧ ms.left = 0 then ({ ms with left := room, refused := ms.refused ++ [text] }, 0)
  else
    let part := text.take (min most ms.left).toNat
    ({ ms with left := ms.left - part.length, signs := ms.signs ++ [part], offs := fun j => if j ∈ chain N N a then ms.offs j + part.length else ms.offs j }, part.length)
noncomputable def pushM (name text : List Nat) (r : MS × Nat) : MS := if r.2 < text.length then { r.1 with pb := r.1.pb ++ [name] ++ [text.drop r.2] } else r.1
noncomputable def bookM (N : Nat) (ms : MS) : MS := { ms with books := ms.books ++ [(ms.signs.flatten.length, told ms.offs N)] }
noncomputable def turnM (names : List (List Nat)) (most room : Int) (ms : MS) : MS ⊕ (List Nat × MS) :=
  let t1 := getTok ms.pb ms.rest
  match known names t1.1 with
  | [] => .inr (t1.1, { ms with pb := t1.2.1, rest := t1.2.2 })
  | a :: _ =>
    let t2 := getTok t1.2.1 t1.2.2
    .inl (bookM names.length (pushM t1.1 t2.1 (writeM names.length most room (a + 1) t2.1 { ms with pb := t2.2.1, rest := t2.2.2 })))
noncomputable def runM (names : List (List Nat)) (most room : Int) : Nat → MS → Option (List Nat × MS)
  | 0, _ => none
  | f + 1, ms => match turnM names most room ms with
    | .inr r => some r
    | .inl ms' => runM names most room f ms'

structure KIds where
  l : LexIds
  ti : TapeIds
  t : Tree
  cN : Addr
  cT : Addr
  cn : Addr
  nl : Addr
  td : Addr
  bk : Addr
  rf : Addr
noncomputable def KIds.fx (K : KIds) : List Addr := [K.cN, K.cT, K.nl, K.td, 140]
noncomputable def KIds.groups (K : KIds) (N : Nat) (ba : List Addr) : List (List Addr) := [ba, [K.cn], [K.rf], [K.bk], treeAddrs K.t N, tapeAddrs K.ti, K.fx, lexAddrs K.l]
noncomputable def KIds.outer (K : KIds) : List Addr := [140, K.l.i.pl, K.l.dx, K.l.pb]
structure KS (H0 : Addr → Option AO) (K : KIds) (names : List (List Nat)) (page : List Nat) (most room : Int) (ms : MS) (ba : List Addr) (bxs : List AV) (H : Addr → Option AO) : Prop where
  lex : LexR H K.l page ms.rest ms.pb
  tape : TapeAt H K.ti most room ms.signs [] ms.left
  tree : TreeAt H K.t K.ti.tp names.length ms.offs
  cN : H K.cN = some (.cell (some (.ref K.nl)))
  cT : H K.cT = some (.cell (some (.ref K.td)))
  nl : H K.nl = some (.list (names.map AV.str))
  td : ∃ f n, H K.td = some (.imap f n) ∧ ∀ k : Nat, 1 ≤ k → k ≤ names.length → f k = some (.ref (K.t.X k))
  p140 : TabAt H 140
  bk : H K.bk = some (.list bxs)
  bks : BooksAt H bxs ms.books ba
  kba : ∀ a ∈ ba, H a ≠ none
  rf : H K.rf = some (.list (ms.refused.map AV.str))
  cn : ∃ v, H K.cn = some (.cell v)
  aps : Aps (K.groups names.length ba)
  fr : ∀ g ∈ [ba, [K.cn], [K.rf], [K.bk], treeAddrs K.t names.length, tapeAddrs K.ti], ∀ a ∈ g, H0 a = none
  but : But K.outer H0 H
section
variable {H0 H H' : Addr → Option AO} {K : KIds} {names : List (List Nat)} {page : List Nat} {most room : Int} {ms : MS} {ba : List Addr} {bxs : List AV}
theorem KS.knw (S : KS H0 K names page most room ms ba bxs H) : ∀ g ∈ K.groups names.length ba, ∀ a ∈ g, H a ≠ none := by
  obtain ⟨f, n, td, _⟩ := S.td
  obtain ⟨v, cn⟩ := S.cn
  have c : ∀ {a ao}, H a = some ao → H a ≠ none := fun e z => by rw [e] at z; cases z
  exact allC (fun a ha => S.kba a ha) <| allC (allC (c cn) allN) <| allC (allC (c S.rf) allN) <| allC (allC (c S.bk) allN) <| allC (fun a ha => S.tree.known a ha) <| allC (fun a ha => S.tape.known a ha) <|
    allC (allC (c S.cN) <| allC (c S.cT) <| allC (c S.nl) <| allC (c td) <| allC S.p140.ne allN) <| allC (fun a ha => S.lex.known a ha) allN
/-- what is new is apart -/
theorem KS.newApart (S : KS H0 K names page most room ms ba bxs H) {D : Addr} (h : H D = none) : ∀ g ∈ K.groups names.length ba, D ∉ g := fun g hg hD => S.knw g hg D hD h
theorem KS.new0 (S : KS H0 K names page most room ms ba bxs H) {D : Addr} (h : H D = none) : H0 D = none := S.but.no h fun a ha => by
  have lx := S.lex.known
  revert a ha
  exact allC S.p140.ne <| allC (lx _ (by first | trivial | simp [lexAddrs])) <| allC (lx _ (by first | trivial | simp [lexAddrs])) <| allC (lx _ (by first | trivial | simp [lexAddrs])) allN
/-- nothing of it is touched -/
theorem KS.agree (S : KS H0 K names page most room ms ba bxs H) (k : ∀ g ∈ K.groups names.length ba, Ag g H H') (b : But K.outer H0 H') : KS H0 K names page most room ms ba bxs H' := by
  have kg : ∀ i, Ag ((K.groups names.length ba).getD i []) H H' := fun i => by
    rw [List.getD_eq_getElem?_getD]
    cases e : (K.groups names.length ba)[i]? with
    | none => exact fun a ha => by simp at ha
    | some g => exact k g (List.mem_of_getElem? e)
  obtain ⟨f, n, td, tdf⟩ := S.td
  obtain ⟨v, cn⟩ := S.cn
  refine ⟨S.lex.agree (kg 7), S.tape.agree (kg 5), S.tree.agree (kg 4), kg 6 _ (by first | trivial | simp [KIds.groups, KIds.fx]) _ S.cN, kg 6 _ (by first | trivial | simp [KIds.groups, KIds.fx]) _ S.cT, kg 6 _ (by first | trivial | simp [KIds.groups, KIds.fx]) _ S.nl, ⟨f, n, kg 6 _ (by first | trivial | simp [KIds.groups, KIds.fx]) _ td, tdf⟩, ?_, kg 3 _ (by first | trivial | simp [KIds.groups]) _ S.bk, S.bks.agree (kg 0), fun a ha => ?_, kg 2 _ (by first | trivial | simp [KIds.groups]) _ S.rf, ⟨v, kg 1 _ (by first | trivial | simp [KIds.groups]) _ cn⟩, S.aps, S.fr, b⟩
  · obtain ⟨ps, e⟩ := S.p140
    exact ⟨ps, kg 6 140 (by first | trivial | simp [KIds.groups, KIds.fx]) _ e⟩
  · cases e : H a with
    | none => exact absurd e (S.kba a ha)
    | some ao => rw [kg 0 a ha ao e]; nofun
theorem KS.kp (S : KS H0 K names page most room ms ba bxs H) (k : Kp H H') : KS H0 K names page most room ms ba bxs H' :=
  S.agree (fun g _ => k.ag g) fun a ao n e => k a ao (S.but a ao n e)
/-- an object out of it goes or turns -/
theorem KS.off (S : KS H0 K names page most room ms ba bxs H) {it : Addr} (n : ∀ g ∈ K.groups names.length ba, it ∉ g) (n0 : H0 it = none) (k : ∀ a ao, a ≠ it → H a = some ao → H' a = some ao) : KS H0 K names page most room ms ba bxs H' :=
  S.agree (fun g hg a ha ao e => k a ao (fun z => n g hg (z ▸ ha)) e) fun a ao na e => k a ao (fun z => by rw [z, n0] at e; cases e) (S.but a ao na e)
theorem KS.apart (S : KS H0 K names page most room ms ba bxs H) (i j : Nat) {a : Addr} (h : a ∈ (K.groups names.length ba).getD i []) (n : i ≠ j) : a ∉ (K.groups names.length ba).getD j [] := S.aps i j a n h
/-- a step within some groups -/
theorem KS.ags (S : KS H0 K names page most room ms ba bxs H) {tl : List Addr} {is : List Nat} (b : But tl H H') (h : ∀ a ∈ tl, ∃ i ∈ is, a ∈ (K.groups names.length ba).getD i []) (j : Nat) (hj : j ∉ is) : Ag ((K.groups names.length ba).getD j []) H H' :=
  b.ag fun a ha hm => by
    obtain ⟨i, hi, hai⟩ := h a hm
    exact S.aps i j a (fun z => hj (z ▸ hi)) hai ha
theorem KS.lexStep (S : KS H0 K names page most room ms ba bxs H) {rest' : List Nat} {pb' : List (List Nat)} {tl : List Addr} (b : But tl H H') (h : ∀ a ∈ tl, a ∈ [K.l.i.pl, K.l.dx, K.l.pb]) (L : LexR H' K.l page rest' pb') : KS H0 K names page most room { ms with rest := rest', pb := pb' } ba bxs H' := by
  have kg := S.ags (is := [7]) b (fun a ha => ⟨7, by simp, by
    have := h a ha
    simp only [List.mem_cons, List.not_mem_nil, or_false] at this
    rcases this with rfl | rfl | rfl <;> simp [KIds.groups, lexAddrs]⟩)
  obtain ⟨f, n, td, tdf⟩ := S.td
  obtain ⟨v, cn⟩ := S.cn
  refine ⟨L, S.tape.agree (kg 5 (by decide)), S.tree.agree (kg 4 (by decide)), kg 6 (by decide) _ (by first | trivial | simp [KIds.groups, KIds.fx]) _ S.cN, kg 6 (by decide) _ (by first | trivial | simp [KIds.groups, KIds.fx]) _ S.cT, kg 6 (by decide) _ (by first | trivial | simp [KIds.groups, KIds.fx]) _ S.nl, ⟨f, n, kg 6 (by decide) _ (by first | trivial | simp [KIds.groups, KIds.fx]) _ td, tdf⟩, ?_, kg 3 (by decide) _ (by first | trivial | simp [KIds.groups]) _ S.bk, S.bks.agree (kg 0 (by decide)), fun a ha => ?_, kg 2 (by decide) _ (by first | trivial | simp [KIds.groups]) _ S.rf, ⟨v, kg 1 (by decide) _ (by first | trivial | simp [KIds.groups]) _ cn⟩, S.aps, S.fr, fun a ao na e => b a ao (fun z => na ?_) (S.but a ao na e)⟩
  · obtain ⟨ps, e⟩ := S.p140
    exact ⟨ps, kg 6 (by decide) 140 (by first | trivial | simp [KIds.groups, KIds.fx]) _ e⟩
  · cases e : H a with
    | none => exact absurd e (S.kba a ha)
    | some ao => rw [kg 0 (by decide) a ha ao e]; nofun
  · have := h a z
    simp only [List.mem_cons, List.not_mem_nil, or_false] at this
    rcases this with rfl | rfl | rfl <;> simp [KIds.outer]
theorem KS.tapeStep (S : KS H0 K names page most room ms ba bxs H) {signs' : List (List Nat)} {left' : Int} {offs' : Nat → Int} (b : But (touch K.ti K.t names.length) H H') (T : TapeAt H' K.ti most room signs' [] left') (U : TreeAt H' K.t K.ti.tp names.length offs') : KS H0 K names page most room { ms with signs := signs', left := left', offs := offs' } ba bxs H' := by
  have ht : ∀ a ∈ touch K.ti K.t names.length, a ∈ tapeAddrs K.ti ∨ a ∈ treeAddrs K.t names.length := fun a ha => by
    rcases List.mem_append.mp ha with ha | ha
    · simp only [List.mem_cons, List.not_mem_nil, or_false] at ha
      rcases ha with rfl | rfl <;> simp [tapeAddrs]
    · exact .inr (List.mem_append_right _ ha)
  have kg := S.ags (is := [4, 5]) b (fun a ha => by
    rcases ht a ha with h | h
    · exact ⟨5, by simp, h⟩
    · exact ⟨4, by simp, h⟩)
  obtain ⟨f, n, td, tdf⟩ := S.td
  obtain ⟨v, cn⟩ := S.cn
  refine ⟨S.lex.agree (kg 7 (by decide)), T, U, kg 6 (by decide) _ (by first | trivial | simp [KIds.groups, KIds.fx]) _ S.cN, kg 6 (by decide) _ (by first | trivial | simp [KIds.groups, KIds.fx]) _ S.cT, kg 6 (by decide) _ (by first | trivial | simp [KIds.groups, KIds.fx]) _ S.nl, ⟨f, n, kg 6 (by decide) _ (by first | trivial | simp [KIds.groups, KIds.fx]) _ td, tdf⟩, ?_, kg 3 (by decide) _ (by first | trivial | simp [KIds.groups]) _ S.bk, S.bks.agree (kg 0 (by decide)), fun a ha => ?_, kg 2 (by decide) _ (by first | trivial | simp [KIds.groups]) _ S.rf, ⟨v, kg 1 (by decide) _ (by first | trivial | simp [KIds.groups]) _ cn⟩, S.aps, S.fr, fun a ao na e => b a ao (fun z => ?_) (S.but a ao na e)⟩
  · obtain ⟨ps, e⟩ := S.p140
    exact ⟨ps, kg 6 (by decide) 140 (by first | trivial | simp [KIds.groups, KIds.fx]) _ e⟩
  · cases e : H a with
    | none => exact absurd e (S.kba a ha)
    | some ao => rw [kg 0 (by decide) a ha ao e]; nofun
  · have h0 : H0 a = none := by
      rcases ht a z with h | h
      · exact S.fr _ (by simp) a h
      · exact S.fr _ (by simp) a h
    rw [h0] at e; cases e
theorem KS.cnStep (S : KS H0 K names page most room ms ba bxs H) {v : Option AV} : KS H0 K names page most room ms ba bxs (hput H K.cn (.cell v)) := by
  have b : But [K.cn] H (hput H K.cn (.cell v)) := (But.refl _ _).put (.inl (by simp))
  have kg := S.ags (is := [1]) b (fun a ha => ⟨1, by simp, ha⟩)
  obtain ⟨f, n, td, tdf⟩ := S.td
  refine ⟨S.lex.agree (kg 7 (by decide)), S.tape.agree (kg 5 (by decide)), S.tree.agree (kg 4 (by decide)), kg 6 (by decide) _ (by first | trivial | simp [KIds.groups, KIds.fx]) _ S.cN, kg 6 (by decide) _ (by first | trivial | simp [KIds.groups, KIds.fx]) _ S.cT, kg 6 (by decide) _ (by first | trivial | simp [KIds.groups, KIds.fx]) _ S.nl, ⟨f, n, kg 6 (by decide) _ (by first | trivial | simp [KIds.groups, KIds.fx]) _ td, tdf⟩, ?_, kg 3 (by decide) _ (by first | trivial | simp [KIds.groups]) _ S.bk, S.bks.agree (kg 0 (by decide)), fun a ha => ?_, kg 2 (by decide) _ (by first | trivial | simp [KIds.groups]) _ S.rf, ⟨v, hput_self _ _ _⟩, S.aps, S.fr, S.but.put (.inr (S.fr [K.cn] (by simp) K.cn (by simp)))⟩
  · obtain ⟨ps, e⟩ := S.p140
    exact ⟨ps, kg 6 (by decide) 140 (by first | trivial | simp [KIds.groups, KIds.fx]) _ e⟩
  · cases e : H a with
    | none => exact absurd e (S.kba a ha)
    | some ao => rw [kg 0 (by decide) a ha ao e]; nofun
theorem KS.rfStep (S : KS H0 K names page most room ms ba bxs H) {refused' : List (List Nat)} : KS H0 K names page most room { ms with refused := refused' } ba bxs (hput H K.rf (.list (refused'.map AV.str))) := by
  have b : But [K.rf] H (hput H K.rf (.list (refused'.map AV.str))) := (But.refl _ _).put (.inl (by simp))
  have kg := S.ags (is := [2]) b (fun a ha => ⟨2, by simp, ha⟩)
  obtain ⟨f, n, td, tdf⟩ := S.td
  obtain ⟨v, cn⟩ := S.cn
  refine ⟨S.lex.agree (kg 7 (by decide)), S.tape.agree (kg 5 (by decide)), S.tree.agree (kg 4 (by decide)), kg 6 (by decide) _ (by first | trivial | simp [KIds.groups, KIds.fx]) _ S.cN, kg 6 (by decide) _ (by first | trivial | simp [KIds.groups, KIds.fx]) _ S.cT, kg 6 (by decide) _ (by first | trivial | simp [KIds.groups, KIds.fx]) _ S.nl, ⟨f, n, kg 6 (by decide) _ (by first | trivial | simp [KIds.groups, KIds.fx]) _ td, tdf⟩, ?_, kg 3 (by decide) _ (by first | trivial | simp [KIds.groups]) _ S.bk, S.bks.agree (kg 0 (by decide)), fun a ha => ?_, hput_self _ _ _, ⟨v, kg 1 (by decide) _ (by first | trivial | simp [KIds.groups]) _ cn⟩, S.aps, S.fr, S.but.put (.inr (S.fr [K.rf] (by simp) K.rf (by simp)))⟩
  · obtain ⟨ps, e⟩ := S.p140
    exact ⟨ps, kg 6 (by decide) 140 (by first | trivial | simp [KIds.groups, KIds.fx]) _ e⟩
  · cases e : H a with
    | none => exact absurd e (S.kba a ha)
    | some ao => rw [kg 0 (by decide) a ha ao e]; nofun
/-- a new page of the books -/
theorem KS.bkStep (S : KS H0 K names page most room ms ba bxs H) {a l : Addr} {n : Nat} {td' : List Int} (ha : H a = some (.tuple [.int n, .ref l])) (hl : H l = some (.list (td'.map AV.int))) (na : ∀ g ∈ K.groups names.length ba, a ∉ g) (nl : ∀ g ∈ K.groups names.length ba, l ∉ g) (a0 : H0 a = none) (l0 : H0 l = none) :
    KS H0 K names page most room { ms with books := ms.books ++ [(n, td')] } (a :: l :: ba) (bxs ++ [.ref a]) (hput H K.bk (.list (bxs ++ [.ref a]))) := by
  have b : But [K.bk] H (hput H K.bk (.list (bxs ++ [.ref a]))) := (But.refl _ _).put (.inl (by simp))
  have kg := S.ags (is := [3]) b (fun a ha => ⟨3, by simp, ha⟩)
  have ab : a ≠ K.bk := fun z => na [K.bk] (by first | trivial | simp [KIds.groups]) (by rw [z]; simp)
  have lb : l ≠ K.bk := fun z => nl [K.bk] (by first | trivial | simp [KIds.groups]) (by rw [z]; simp)
  have ag : Ag (a :: l :: ba) H (hput H K.bk (.list (bxs ++ [.ref a]))) := fun x hx ao e => by
    rcases List.mem_cons.mp hx with rfl | hx
    · exact put_keep e ab
    · rcases List.mem_cons.mp hx with rfl | hx
      · exact put_keep e lb
      · exact kg 0 (by decide) x hx ao e
  obtain ⟨f, n', td, tdf⟩ := S.td
  obtain ⟨v, cn⟩ := S.cn
  refine ⟨S.lex.agree (kg 7 (by decide)), S.tape.agree (kg 5 (by decide)), S.tree.agree (kg 4 (by decide)), kg 6 (by decide) _ (by first | trivial | simp [KIds.groups, KIds.fx]) _ S.cN, kg 6 (by decide) _ (by first | trivial | simp [KIds.groups, KIds.fx]) _ S.cT, kg 6 (by decide) _ (by first | trivial | simp [KIds.groups, KIds.fx]) _ S.nl, ⟨f, n', kg 6 (by decide) _ (by first | trivial | simp [KIds.groups, KIds.fx]) _ td, tdf⟩, ?_, hput_self _ _ _, (S.bks.snoc ha hl).agree ag, fun x hx => ?_, kg 2 (by decide) _ (by first | trivial | simp [KIds.groups]) _ S.rf, ⟨v, kg 1 (by decide) _ (by first | trivial | simp [KIds.groups]) _ cn⟩, ?_, fun g hg x hx => ?_, S.but.put (.inr (S.fr [K.bk] (by simp) K.bk (by simp)))⟩
  · obtain ⟨ps, e⟩ := S.p140
    exact ⟨ps, kg 6 (by decide) 140 (by first | trivial | simp [KIds.groups, KIds.fx]) _ e⟩
  · rcases List.mem_cons.mp hx with rfl | hx'
    · rw [ag _ hx _ ha]; nofun
    · rcases List.mem_cons.mp hx' with rfl | hx''
      · rw [ag _ hx _ hl]; nofun
      · cases e : H x with
        | none => exact absurd e (S.kba x hx'')
        | some ao => rw [ag _ hx ao e]; nofun
  · exact Aps.grow (g₂ := [a, l]) S.aps fun x hx g' hg' => by
      revert x hx
      exact allC (na g' (.tail _ hg')) <| allC (nl g' (.tail _ hg')) <| allN
  · rcases List.mem_cons.mp hg with rfl | hg'
    · rcases List.mem_cons.mp hx with rfl | hx
      · exact a0
      · rcases List.mem_cons.mp hx with rfl | hx
        · exact l0
        · exact S.fr ba (.head _) x hx
    · exact S.fr g (.tail _ hg') x hx
end
end Mine

end
section
open PySem PySem.W PyProof.Rows PySem.Calls PyProof.Rows.LCg
set_option linter.unusedVariables false
namespace Mine
noncomputable def fKeeps : FnS := ⟨["lexer", "most", "room", "tape", "signs", "calls", "i", "above", "books", "refused", "turn", "known", "text", "taken", "error", "end"], ["names", "tree", "name"], [], ["_law_tape", "range", "len", "_Tellable", "LargeZipFile", "str", "BadZipFile"]⟩
noncomputable def bKeeps : List Stmt := subs (nth pBody 10)
noncomputable abbrev km (K : KIds) (most room : Int) (x6 x7 x10 x11 x12 x13 x14 x15 : Option AV) : List (Option AV) :=
  [some (.ref K.l.x), some (.int most), some (.int room), some (.ref K.ti.tp), some (.ref K.ti.ls), some (.ref K.ti.lc), x6, x7, some (.ref K.bk), some (.ref K.rf), x10, x11, x12, x13, x14, x15]
/-- a comprehension over a range from 0 -/
theorem comp_range {F F' : FnS} {C : Cx} {σ : St} {s₂ : Shared} {A : Around} {scope : Scope} {capa : List Addr} {elt iter : Expr} {ifs : List Expr} {pos xp : Pos} {x : Str} {ita : Addr} {End : Addr → (Addr → Option AO) → List (Option AV) → Prop} {n : Nat}
    (N : Nat) (Out : Nat → List AV → (Addr → Option AO) → Prop) (h : At F C σ s₂) (hr : Rm A n) (hit : σ.H ita = some (.it (.range 0 (Builtin.Range.rangeSize 0 N 1) 1))) (hF : F'.nm = [x]) (hcv : cvs scope.names = [])
    (mono : ∀ j xs H H', Out j xs H → Kp H H' → Out j xs H') (out0 : ∀ H, Out 0 [] H) (olen : ∀ j xs H, Out j xs H → xs.length ≤ 100000)
    (body : ∀ (j : Nat) (C' : Cx) H' D xs s', j < N → C'.w = C.w → C'.ca = capa → But [ita] σ.H H' → σ.H D = none → H' D = some (.list xs) → Out j xs (hrm H' ita D) → H' ita ≠ none → At F' C' ⟨[some (.int j)], H'⟩ s' → Wp C'.w A (tests ifs C'.env) (fun ok s₃ => if ok then
          Wp C'.w A (eval elt C'.env) (fun v s₄ => ∃ H'', Kp H' H'' ∧ At F' C' ⟨[some (.int j)], H''⟩ s₄ ∧ Out (j + 1) (xs ++ [er v]) (hrm H'' ita D)) (fun _ _ => False) s₃
        else ∃ H'', Kp H' H'' ∧ At F' C' ⟨[some (.int j)], H''⟩ s₃ ∧ Out (j + 1) xs (hrm H'' ita D)) (fun _ _ => False) s')
    (done : ∀ D H xs, But [ita] σ.H H → σ.H D = none → H D = some (.list xs) → Out N xs (hrm H ita D) → End D H σ.m)
    (ht : ∀ it v, letOwnedTupleGo (.Name x xp) it v = pure () := by intro _ _; rfl) :
    CompRun A F F' C (.ListComp elt [⟨.Name x xp, iter, ifs, 0⟩] scope pos) scope capa (.ref ita) s₂ End := by
  refine comp_src hF hcv N (fun j => .range (0 + 1 * j) ((N : Int) - j) 1) (fun j => .int (0 + 1 * j)) Out h (by rw [hit, rsize_up (by omega)]; simp) rfl mono out0 olen
    (fun j C' σ' s' Q hj hw b h' hi k => src_range_nx hj h' hi k) (fun C' σ' s' Q hw b h' hi k => src_range_fin hr.hand h' hi k) (fun j C' H' D xs s' hj hw hca b hD hd ho hi h' => ?_) done ht
  have e : (0 + 1 * (j : Int)) = (j : Int) := by omega
  rw [e] at h' ⊢
  exact body j C' H' D xs s' hj hw hca b hD hd ho (by rw [hi]; nofun) h'
section
variable {C : Cx} {s : Shared} {A : Around} {n : Nat} {H0 H : Addr → Option AO} {K : KIds} {names : List (List Nat)} {page : List Nat} {most room : Int} {ms : MS} {ba : List Addr} {bxs : List AV} {m : List (Option AV)} {E : Value → Shared → Prop}
/-- a token is read -/
theorem tokr {p1 p2 p3 : Pos} {pl : Sem Bool} {Q : Value → Shared → Prop} (h : At fKeeps C ⟨m, H⟩ s) (hr : Rm A (n + 4)) (S : KS H0 K names page most room ms ba bxs H) (hm : m[0]? = some (some (.ref K.l.x))) (hp : page.length ≤ 90000) (hpb : ms.pb.length ≤ 1000)
    (k : ∀ H' s' v, er v = .str (getTok ms.pb ms.rest).1 → At fKeeps C ⟨m, H'⟩ s' → KS H0 K names page most room { ms with rest := (getTok ms.pb ms.rest).2.2, pb := (getTok ms.pb ms.rest).2.1 } ba bxs H' → But [K.l.i.pl, K.l.dx, K.l.pb] H H' → Q v s')
    (he : eval (.Call (.Attribute (.Name "lexer" p1) "get_token" p2) [] [] p3) C.env = (do
      let ov ← eval (.Name "lexer" p1) C.env
      standAt p2.atName
      let (f, first) ← holding [ov] (getMethod ov "get_token" pl)
      callWith p3 f first (backTo p3 (starEach [] C.env)) []) := by rfl) :
    Wp C.w A (eval (.Call (.Attribute (.Name "lexer" p1) "get_token" p2) [] [] p3) C.env) Q E s := by
  obtain ⟨hx, ⟨_, hdx⟩, _, _⟩ := S.lex.parts
  refine wp_mcall (am_local 0 h rfl hm fun v e => ?_) he
  cases er_ref e
  refine am_method (f := 117) h hx hdx (by decide) (by kernel_rfl!) (wp_fnargs0 (h.fnAt (by kernel_rfl!)) (wp_call ?_))
  cases hpbe : ms.pb with
  | nil =>
    have L := S.lex
    rw [hpbe] at L
    refine token_spec (n := n) h hr L hp fun v s' H' ev h' L' b => ?_
    rw [hpbe] at k
    exact k H' s' v ev h' (S.lexStep b (fun a ha => by simp only [List.mem_cons, List.not_mem_nil, or_false] at ha ⊢; rcases ha with rfl | rfl <;> simp) L') (b.more fun a ha => .inl (by simp only [List.mem_cons, List.not_mem_nil, or_false] at ha ⊢; rcases ha with rfl | rfl <;> simp))
  | cons t pb =>
    have L := S.lex
    rw [hpbe] at L
    refine pushed_spec (n := n) h (hr.cast (by omega)) L (by rw [hpbe] at hpb; simp at hpb; omega) fun v s' H' ev h' L' b => ?_
    rw [hpbe] at k
    exact k H' s' v ev h' (S.lexStep b (fun a ha => by simp only [List.mem_cons, List.not_mem_nil, or_false] at ha ⊢; rcases ha with rfl; simp) L') (b.more fun a ha => .inl (by simp only [List.mem_cons, List.not_mem_nil, or_false] at ha ⊢; rcases ha with rfl; simp))
noncomputable def outKnown (names : List (List Nat)) (name : List Nat) (j : Nat) : List AV := ((List.range j).filter fun i => names[i]? == some name).map fun i => AV.int (i : Nat)
noncomputable def fKnown : FnS := ⟨["i"], ["name", "names"], [], []⟩
noncomputable def fTells : FnS := ⟨["i"], ["tree"], [], []⟩
theorem tells_run {ita : Addr} {σ : St} {scope : Scope} {iter : Expr} {pos xp p1 p2 p3 p4 p5 p6 p7 : Pos} {End : Addr → (Addr → Option AO) → List (Option AV) → Prop} {pl : Env → Sem Bool} (h : At fKeeps C σ s) (hr : Rm A (n + 2)) (hit : σ.H ita = some (.it (.range 0 (Builtin.Range.rangeSize 0 (names.length : Nat) 1) 1))) (hn : names.length ≤ 1000)
    {tp : Addr} {t : Tree} {offs : Nat → Int} {cT td : Addr} (U : TreeAt σ.H t tp names.length offs) (hcT : σ.H cT = some (.cell (some (.ref td)))) (htd : ∃ f n, σ.H td = some (.imap f n) ∧ ∀ k : Nat, 1 ≤ k → k ≤ names.length → f k = some (.ref (t.X k))) (hcv : cvs scope.names = [])
    (done : ∀ D H, But [ita] σ.H H → σ.H D = none → H D = some (.list ((told offs names.length).map AV.int)) → End D H σ.m)
    (he : ∀ env, eval (.Call (.Attribute (.Subscript (.Name "tree" p1) (.BinOp (.Name "i" p2) .Add (.Constant (.int 1) 0 p3) p4) p5) "tell" p6) [] [] p7) env = (do
      let ov ← eval (.Subscript (.Name "tree" p1) (.BinOp (.Name "i" p2) .Add (.Constant (.int 1) 0 p3) p4) p5) env
      standAt p6.atName
      let (f, first) ← holding [ov] (getMethod ov "tell" (pl env))
      callWith p7 f first (backTo p7 (starEach [] env)) []) := by intro _; rfl) :
    CompRun A fKeeps fTells C (.ListComp (.Call (.Attribute (.Subscript (.Name "tree" p1) (.BinOp (.Name "i" p2) .Add (.Constant (.int 1) 0 p3) p4) p5) "tell" p6) [] [] p7) [⟨.Name "i" xp, iter, [], 0⟩] scope pos) scope [cT] (.ref ita) s End := by
  obtain ⟨f, fn, htd, hf⟩ := htd
  refine comp_range names.length (fun j xs _ => xs = ((List.range j).map fun i => offs (i + 1)).map AV.int ∧ j ≤ names.length) h hr hit rfl hcv (fun _ _ _ _ h _ => h) (fun _ => ⟨rfl, Nat.zero_le _⟩) (fun j xs _ e => by rw [e.1]; simp; omega) (fun j C' H' D xs s' hj hw hca b hD hd ho hi h' => ?_) fun D H xs b hD hd ho => ?_
  · have c0 : C'.ca[0]? = some cT := by rw [hca]; rfl
    have kk : ∀ {a ao}, σ.H a = some ao → ao ≠ .it (.range 0 (Builtin.Range.rangeSize 0 (names.length : Nat) 1) 1) → H' a = some ao := fun {a ao} e ne => b a ao (fun z => ne_of e hit ne (List.mem_singleton.mp z)) e
    refine wp_tests0 ?_
    rw [if_pos rfl]
    refine wp_mcall (wp_sub (am_cell 0 h' rfl c0 (kk hcT nofun) fun v e => ?_)) (he _)
    cases er_ref e
    refine wp_binop (am_local 0 h' rfl rfl fun v e => am_cint h' fun v₂ s₂ h₂ e₂ => am_add h₂ e e₂ fun v₃ s₃ h₃ e₃ => am_getdict h₃ (kk htd nofun) e₃ (av := .ref (t.X (j + 1))) (by have := hf (j + 1) (by omega) (by omega); rw [← this]; congr 1) fun v₄ s₄ h₄ e₄ => ?_)
    cases er_ref e₄
    have ux := kk (U.x (j + 1) (by omega) (by omega)) nofun
    have ud := kk (U.d (j + 1) (by omega) (by omega)) nofun
    refine am_method (f := 68) h₄ ux ud (by decide) (by kernel_rfl!) (wp_fnargs0 (h₄.fnAt (by kernel_rfl!)) (wp_call (tell_spec h₄ hr ux ud fun v₅ s₅ h₅ e₅ => ⟨H', fun _ _ e => e, h₅, ?_, by omega⟩)))
    rw [ho.1, e₅, List.range_succ]; simp
  · exact done D H b hD (by rw [hd, ho.1]; rfl)
end
end Mine

end
section
open PySem PySem.W PyProof.Rows PySem.Calls PyProof.Rows.LCg
set_option linter.unusedVariables false
namespace Mine
noncomputable def stTurn : Stmt := nth bKeeps 4
/-- nothing outside the groups is touched -/
noncomputable def KB (K : KIds) (N : Nat) (ba : List Addr) (H H' : Addr → Option AO) : Prop := ∀ a ao, (∀ g ∈ K.groups N ba, a ∉ g) → H a = some ao → H' a = some ao
theorem KB.trans {K : KIds} {N : Nat} {ba : List Addr} {H H' H'' : Addr → Option AO} (x : KB K N ba H H') (y : KB K N ba H' H'') : KB K N ba H H'' := fun a ao n e => y a ao n (x a ao n e)
theorem Kp.kb {K : KIds} {N : Nat} {ba : List Addr} {H H' : Addr → Option AO} (x : Kp H H') : KB K N ba H H' := fun a ao _ e => x a ao e
theorem But.kb {K : KIds} {N : Nat} {ba tl : List Addr} {H H' : Addr → Option AO} (x : But tl H H') (i : Nat) (h : ∀ a ∈ tl, a ∈ (K.groups N ba).getD i []) : KB K N ba H H' := fun a ao n e => x a ao (fun z => by
  have := h a z
  rw [List.getD_eq_getElem?_getD] at this
  cases q : (K.groups N ba)[i]? with
  | none => rw [q] at this; simp at this
  | some g => rw [q] at this; exact n g (List.mem_of_getElem? q) this) e
/-- the frame of _law_keeps -/
structure KF (C : Cx) (A : Around) (K : KIds) (fs : List Env) (n : Nat) : Prop where
  c0 : C.ca[0]? = some K.cN
  c1 : C.ca[1]? = some K.cT
  c2 : C.ca[2]? = some K.cn
  hr : Rm A (n + 20)
  stk : Stk A C (C.env :: fs)
  fr : C.env.frame = some C.L
section
variable {C : Cx} {s : Shared} {A : Around} {n : Nat} {fs : List Env} {H0 H : Addr → Option AO} {K : KIds} {names : List (List Nat)} {page : List Nat} {most room : Int} {ms : MS} {ba : List Addr} {bxs : List AV} {x6 x7 x10 x11 x12 x13 x14 x15 : Option AV} {E : Value → Shared → Prop} {Q : Flow → Shared → Prop}
/-- a turn's last row: the books -/
theorem book_spec (h : At fKeeps C ⟨km K most room x6 x7 x10 x11 x12 x13 x14 x15, H⟩ s) (kf : KF C A K fs n) (S : KS H0 K names page most room ms ba bxs H) (hn : names.length ≤ 8) (hz : ms.signs.flatten.length ≤ 100000) (hb : bxs.length ≤ 1000)
    (k : ∀ H' s' a l, At fKeeps C ⟨km K most room x6 x7 x10 x11 x12 x13 x14 x15, H'⟩ s' → KS H0 K names page most room (bookM names.length ms) (a :: l :: ba) (bxs ++ [.ref a]) H' → KB K names.length ba H H' → H a = none → H l = none → Q .next s') :
    Wp C.w A (execs ((forB stTurn).drop 7) C.env) Q E s := by
  refine wp_cons (wp_expr (wp_mcall (am_local 8 h rfl rfl fun v e => ?_)) h.notInt)
  cases er_ref e
  refine am_mappend h S.bk (wp_bargs (wp_sp (wp_tuple (wp_sp (wp_callx (am_bltn (v := .builtin "len") 2 h rfl (by kernel_rfl!) (by kernel_rfl!) (by decide) (wp_bargs (wp_sp (wp_mcall (am_cstr h fun jv s₁ h₁ e₁ => am_mjoin (wp_bargs (wp_sp (am_local 4 h₁ rfl rfl fun v e => ?_))) e₁))))))))))
  cases er_ref e
  refine wp_sp0 (am_join h₁ S.tape.ls e₁ (by omega) fun jv2 s₂ h₂ e₂ => wp_sp0 (am_slen h₂ e₂ (by omega) fun nv s₃ h₃ e₃ => ?_))
  refine wp_sp (am_lcomp (F' := fTells) ["tree"] [K.cT] h₃.env (by kernel_rfl!) (.cons 1 rfl kf.c1 .nil) (wp_callx (am_bltn (v := .type "range") 1 h₃ rfl (by kernel_rfl!) (by kernel_rfl!) (by decide) (wp_targs (wp_sp (wp_callx (am_bltn (v := .builtin "len") 2 h₃ rfl (by kernel_rfl!) (by kernel_rfl!) (by decide) (wp_bargs (wp_sp (am_cell 0 h₃ rfl kf.c0 S.cN fun v e => ?_))))))))))
  cases er_ref e
  refine wp_sp0 (am_len h₃ S.nl (by simp; omega) fun lv s₄ h₄ e₄ => wp_sp0 (am_range1 h₄ e₄ fun Dr s₅ t u w hDr h₅ => am_iter_range h₅ (hput_self _ _ _) (small_of (by omega) (by omega) (by rw [List.length_map]; omega) (by rw [List.length_map]; omega) (.inl rfl)) fun it s₆ hit h₆ => ?_))
  have hDr : H Dr = none := hDr
  have kp1 : Kp H (hput H Dr (.raw (rngObj 0 ((names.map AV.str).length : Nat) 1 t u w))) := (Kp.refl H).new hDr
  have it0 : H it = none := kp1.no hit
  have kp2 := kp1.new (o := .it (.range 0 (Builtin.Range.rangeSize 0 ((names.map AV.str).length : Nat) 1) 1)) hit
  have h₆ : At fKeeps C ⟨km K most room x6 x7 x10 x11 x12 x13 x14 x15, hput (hput H Dr (.raw (rngObj 0 ((names.map AV.str).length : Nat) 1 t u w))) it (.it (.range 0 (Builtin.Range.rangeSize 0 ((names.map AV.str).length : Nat) 1) 1))⟩ s₆ := h₆
  have hi2 : hput (hput H Dr (.raw (rngObj 0 ((names.map AV.str).length : Nat) 1 t u w))) it (.it (.range 0 (Builtin.Range.rangeSize 0 ((names.map AV.str).length : Nat) 1) 1)) it = some (.it (.range 0 (Builtin.Range.rangeSize 0 ((names.map AV.str).length : Nat) 1) 1)) := hput_self _ _ _
  generalize hput (hput H Dr (.raw (rngObj 0 ((names.map AV.str).length : Nat) 1 t u w))) it (.it (.range 0 (Builtin.Range.rangeSize 0 ((names.map AV.str).length : Nat) 1) 1)) = H2 at h₆ hi2 kp2
  have S2 := S.kp kp2
  rw [List.length_map] at hi2
  refine tells_run (n := n) h₆ (kf.hr.cast (by omega)) hi2 (by omega) S2.tree S2.cT S2.td (by kernel_rfl!) fun D H3 b hD hd s₇ h₇ => ?_
  have hD2 : H2 D = none := hD
  have kp3 : Kp H H3 := fun a ao e => b a ao (fun z => by rw [List.mem_singleton.mp z, it0] at e; cases e) (kp2 a ao e)
  have S3 := S.kp kp3
  refine wp_sp0 (am_newtuple h₇ (by simp) fun a s₈ hA h₈ => wp_sp0 ?_)
  have hA3 : H3 a = none := hA
  rw [show List.map er [nv, Value.ref D] = [er nv, .ref D] from rfl, e₃] at h₈
  have S4 := S3.kp ((Kp.refl H3).new (o := .tuple [.int ms.signs.flatten.length, .ref D]) hA3)
  have hD3 : H3 D ≠ none := by rw [hd]; nofun
  refine am_append h₈ S4.bk (by omega) fun s₉ h₉ => wp_nil ?_
  have ne : D ≠ a := fun z => hD3 (by rw [z]; exact hA3)
  refine k _ _ a D h₉ (S4.bkStep (hput_self _ _ _) (put_keep hd ne) (S3.newApart hA3) (S2.newApart hD2) (S3.new0 hA3) (S2.new0 hD2)) (fun b ao nb e => ?_) (kp3.no hA3) (kp2.no hD2)
  refine put_keep (put_new (kp3 b ao e) hA3) fun z => nb [K.bk] (by first | trivial | simp [KIds.groups]) (by rw [z]; simp)
/-- what was not taken is pushed back -/
theorem behind_spec {name text : List Nat} {taken : Nat} (h : At fKeeps C ⟨km K most room x6 x7 x10 x11 (some (.str text)) (some (.int taken)) x14 x15, H⟩ s) (kf : KF C A K fs n) (S : KS H0 K names page most room ms ba bxs H) (hcn : H K.cn = some (.cell (some (.str name)))) (hn : names.length ≤ 8) (hz : ms.signs.flatten.length ≤ 100000) (hb : bxs.length ≤ 1000) (ht : text.length ≤ 1000) (hpb : ms.pb.length ≤ 900)
    (k : ∀ H' s' a l, At fKeeps C ⟨km K most room x6 x7 x10 x11 (some (.str text)) (some (.int taken)) x14 x15, H'⟩ s' → KS H0 K names page most room (bookM names.length (pushM name text (ms, taken))) (a :: l :: ba) (bxs ++ [.ref a]) H' → KB K names.length ba H H' → H a = none → H l = none → Q .next s') :
    Wp C.w A (execs ((forB stTurn).drop 6) C.env) Q E s := by
  refine wp_cons (wp_if (wp_tcmp (am_local 13 h rfl rfl fun tv et => wp_callx (am_bltn (v := .builtin "len") 2 h rfl (by kernel_rfl!) (by kernel_rfl!) (by decide) (wp_bargs (wp_sp (am_local 12 h rfl rfl fun v e => wp_sp0 (am_slen h e (by omega) fun lv s₁ h₁ e₁ => am_lt et e₁ (am_truthy_bool ?_)))))))))
  by_cases hlt : taken < text.length
  · rw [if_pos (by simpa using hlt)]
    have pm : pushM name text (ms, taken) = { ms with pb := ms.pb ++ [name] ++ [text.drop taken] } := by unfold pushM; rw [if_pos hlt]
    rw [pm] at k
    obtain ⟨hx, ⟨_, hdx⟩, _, _⟩ := S.lex.parts
    refine wp_cons (wp_expr (wp_mcall (am_local 0 h₁ rfl rfl fun v e => ?_)) h₁.notInt)
    cases er_ref e
    refine am_method (f := 124) h₁ hx hdx (by decide) (by kernel_rfl!) (wp_fnargs (wp_sp (am_cell 2 h₁ rfl kf.c2 hcn fun nv en => wp_sp0 ⟨h₁.fnAt (by kernel_rfl!), wp_call ?_⟩)))
    obtain ⟨pre, epre, L⟩ := S.lex
    refine push_spec (n := n) h₁ (kf.hr.cast (by omega)) L en (by omega) fun s₂ h₂ L2 => ?_
    have b2 : But [K.l.pb] H (hput H K.l.pb (.list ((ms.pb ++ [name]).map AV.str))) := (But.refl _ _).put (.inl (by simp))
    have S2 := S.lexStep b2 (fun a ha => by simp only [List.mem_cons, List.not_mem_nil, or_false] at ha ⊢; rcases ha with rfl; simp) ⟨pre, epre, L2⟩
    have kb2 : KB K names.length ba H (hput H K.l.pb (.list ((ms.pb ++ [name]).map AV.str))) := b2.kb 7 fun a ha => by simp only [List.mem_cons, List.not_mem_nil, or_false] at ha; rcases ha with rfl; simp [KIds.groups, lexAddrs]
    have h₂ : At fKeeps C ⟨km K most room x6 x7 x10 x11 (some (.str text)) (some (.int taken)) x14 x15, hput H K.l.pb (.list ((ms.pb ++ [name]).map AV.str))⟩ s₂ := h₂
    generalize hput H K.l.pb (.list ((ms.pb ++ [name]).map AV.str)) = H2 at h₂ S2 kb2 L2
    obtain ⟨hx, ⟨_, hdx⟩, _, _⟩ := S2.lex.parts
    refine wp_cons (wp_expr (wp_mcall (am_local 0 h₂ rfl rfl fun v e => ?_)) h₂.notInt)
    cases er_ref e
    refine am_method (f := 124) h₂ hx hdx (by decide) (by kernel_rfl!) (wp_fnargs (wp_sp (wp_sub (am_local 12 h₂ rfl rfl fun tv2 et2 => wp_slice (wp_psome (am_local 13 h₂ rfl rfl fun kv ek => wp_pnone (wp_pnone ?_)))))))
    refine am_sslice (li := some (taken : Int)) (ui := none) h₂ et2 ek rfl (by omega) fun v s₃ h₃ ev => wp_sp0 ⟨h₃.fnAt (by kernel_rfl!), wp_call ?_⟩
    have cut : (text.drop (loOf (some (taken : Int)) text.length)).take (hiOf none text.length - loOf (some (taken : Int)) text.length) = text.drop taken := by
      have e1 : loOf (some (taken : Int)) text.length = taken := loOf_ge (by omega)
      have e2 : hiOf none text.length = text.length := rfl
      rw [e1, e2]
      exact List.take_of_length_le (by rw [List.length_drop]; omega)
    rw [cut] at ev
    obtain ⟨pre, epre, L⟩ := S2.lex
    refine push_spec (n := n) h₃ (kf.hr.cast (by omega)) L ev (by simp; omega) fun s₄ h₄ L4 => ?_
    have b4 : But [K.l.pb] H2 (hput H2 K.l.pb (.list ((ms.pb ++ [name] ++ [text.drop taken]).map AV.str))) := (But.refl _ _).put (.inl (by simp))
    have S4 := S2.lexStep b4 (fun a ha => by simp only [List.mem_cons, List.not_mem_nil, or_false] at ha ⊢; rcases ha with rfl; simp) ⟨pre, epre, L4⟩
    have kb4 : KB K names.length ba H2 (hput H2 K.l.pb (.list ((ms.pb ++ [name] ++ [text.drop taken]).map AV.str))) := b4.kb 7 fun a ha => by simp only [List.mem_cons, List.not_mem_nil, or_false] at ha; rcases ha with rfl; simp [KIds.groups, lexAddrs]
    have nb : ∀ {x}, hput H2 K.l.pb (.list ((ms.pb ++ [name] ++ [text.drop taken]).map AV.str)) x = none → H x = none := fun {x} hx => by
      cases z : H x with
      | none => rfl
      | some ao =>
        exfalso
        by_cases q : ∀ g ∈ K.groups names.length ba, x ∉ g
        · rw [kb4 x ao q (kb2 x ao q z)] at hx; cases hx
        · refine q fun g hg hm => ?_
          exact S4.knw g hg x hm hx
    refine wp_nil (book_spec (n := n) h₄ kf S4 hn hz hb fun H' s' a l g S' kb ha hl => k H' s' a l g S' ((kb2.trans kb4).trans kb) (nb ha) (nb hl))
  · rw [if_neg (by simpa using hlt)]
    have pm : pushM name text (ms, taken) = ms := by unfold pushM; rw [if_neg hlt]
    rw [pm] at k
    exact wp_nil (book_spec (n := n) h₁ kf S hn hz hb k)
end
end Mine

end
section
open PySem PySem.W PyProof.Rows PySem.Calls PyProof.Rows.LCg
set_option linter.unusedVariables false
namespace Mine
theorem But.kbs {K : KIds} {N : Nat} {ba tl : List Addr} {H H' : Addr → Option AO} (x : But tl H H') (h : ∀ a ∈ tl, ∃ i, a ∈ (K.groups N ba).getD i []) : KB K N ba H H' := fun a ao n e => x a ao (fun z => by
  obtain ⟨i, this⟩ := h a z
  rw [List.getD_eq_getElem?_getD] at this
  cases q : (K.groups N ba)[i]? with
  | none => rw [q] at this; simp at this
  | some g => rw [q] at this; exact n g (List.mem_of_getElem? q) this) e
theorem touch_in {K : KIds} {N : Nat} {ba : List Addr} {a : Addr} (h : a ∈ touch K.ti K.t N) : ∃ i ∈ [4, 5], a ∈ (K.groups N ba).getD i [] := by
  rcases List.mem_append.mp h with h | h
  · simp only [List.mem_cons, List.not_mem_nil, or_false] at h
    rcases h with rfl | rfl <;> exact ⟨5, by simp, by simp [KIds.groups, tapeAddrs]⟩
  · exact ⟨4, by simp, List.mem_append_right _ h⟩
section
variable {C : Cx} {s : Shared} {A : Around} {n : Nat} {fs : List Env} {H0 H : Addr → Option AO} {K : KIds} {names : List (List Nat)} {page : List Nat} {most room : Int} {ms : MS} {ba : List Addr} {bxs : List AV} {x6 x7 x10 x11 x12 x13 x14 x15 : Option AV} {E : Value → Shared → Prop} {Q : Flow → Shared → Prop}
/-- a text is written, or refused -/
theorem try_spec {a : Nat} {kl : Addr} {kn : List Nat} {text : List Nat} (h : At fKeeps C ⟨km K most room x6 x7 x10 (some (.ref kl)) (some (.str text)) (some (.int 0)) x14 x15, H⟩ s) (kf : KF C A K fs n) (S : KS H0 K names page most room ms ba bxs H) (hkl : H kl = some (.list ((a :: kn).map fun i => AV.int (i : Nat)))) (ha : a < names.length) (hn : names.length ≤ 8)
    (hm : 0 ≤ most) (hm' : most ≤ 1000) (hl : 0 ≤ ms.left) (hl' : ms.left ≤ 1000) (hz : text.length ≤ 1000) (hs : ms.signs.length ≤ 100000) (hrf : ms.refused.length ≤ 1000)
    (k : ∀ H' s' x14', At fKeeps C ⟨km K most room x6 x7 x10 (some (.ref kl)) (some (.str text)) (some (.int (writeM names.length most room (a + 1) text ms).2)) x14' x15, H'⟩ s' → KS H0 K names page most room (writeM names.length most room (a + 1) text ms).1 ba bxs H' → (∀ x, H K.cn = some x → H' K.cn = some x) → KB K names.length ba H H' → Q .next s') :
    Wp C.w A (exec (nth (forB stTurn) 5) C.env) Q E s := by
  refine am_try (F := fKeeps) (Cl := 37) 14 4 h.gnd rfl rfl (by kernel_rfl!) (by kernel_rfl!) kf.stk kf.fr ?_
  obtain ⟨f, fn, htd, hf⟩ := S.td
  refine wp_cons (wp_assign (wp_mcall (wp_sub (am_cell 1 h rfl kf.c1 S.cT fun v e => ?_))))
  cases er_ref e
  refine wp_binop (wp_sub (am_local 11 h rfl rfl fun v e => ?_))
  cases er_ref e
  refine am_cint h fun zv s₁ h₁ ez => am_tailitem h₁ (.inl hkl) ez (by decide) rfl (by decide) fun iv ei => am_cint h₁ fun ov s₂ h₂ eo => am_add h₂ ei eo fun sv s₃ h₃ es => ?_
  refine am_getdict h₃ htd es (av := .ref (K.t.X (a + 1))) (by have := hf (a + 1) (by omega) (by omega); rw [← this]; congr 1) fun xv s₄ h₄ ex => ?_
  cases er_ref ex
  have ux := S.tree.x (a + 1) (by omega) (by omega)
  have ud := S.tree.d (a + 1) (by omega) (by omega)
  refine am_method (f := 61) h₄ ux ud (by decide) (by kernel_rfl!) (wp_fnargs (wp_sp (am_local 12 h₄ rfl rfl fun tv et => wp_sp0 ⟨h₄.fnAt (by kernel_rfl!), wp_call ?_⟩)))
  refine write_at (n := n) hm hm' hl hl' hz hs names.length (a + 1) (by omega) (by omega) (by omega) h₄ (kf.hr.cast (by omega)) S.tape S.tree et kf.stk (fun c1 c2 v s' H' g ev T' U' b => ?_) (fun c1 c2 c3 e v s' H' g ev fly T' U' b => ?_) fun c1 => ?_
  · have ew : writeM names.length most room (a + 1) text ms = ({ ms with left := ms.left - (text.take (min most ms.left).toNat).length, signs := ms.signs ++ [text.take (min most ms.left).toNat], offs := fun j => if j ∈ chain names.length names.length (a + 1) then ms.offs j + (text.take (min most ms.left).toNat).length else ms.offs j }, (text.take (min most ms.left).toNat).length) := by
      unfold writeM; rw [if_neg c2]
    rw [ew] at k
    refine am_store 13 g rfl fun s₅ g₅ => wp_nil ?_
    rw [ev] at g₅
    refine k H' _ x14 g₅ (S.tapeStep b T' U') (fun x hx => ?_) (b.kbs fun a ha => let ⟨i, _, q⟩ := touch_in ha; ⟨i, q⟩)
    exact S.ags b (fun a ha => touch_in ha) 1 (by simp) K.cn (by first | trivial | simp [KIds.groups]) x hx
  · have ew : writeM names.length most room (a + 1) text ms = ({ ms with left := room, refused := ms.refused ++ [text] }, 0) := by
      unfold writeM; rw [if_pos ⟨c2, c3⟩]
    rw [ew] at k
    have S1 := S.tapeStep b T' U'
    refine ⟨e, _, [v], rfl, g, fly, fun t s₂ he ht net g₂ => ?_⟩
    have he : H' e = none := he
    have ht : H' t = none := ht
    have kp : Kp H' (hput (hput H' e (.exc 37 t)) t (.args [er v])) := ((Kp.refl H').new he).upd ht
    have S2 := S1.kp kp
    have x1 : hput (hput H' e (.exc 37 t)) t (.args [er v]) e = some (.exc 37 t) := by rw [hput_ne net]; exact hput_self _ _ _
    have x2 : hput (hput H' e (.exc 37 t)) t (.args [er v]) t = some (.args [.str text]) := by rw [hput_self, ev]
    have g₂ : At fKeeps C ⟨km K most room x6 x7 x10 (some (.ref kl)) (some (.str text)) (some (.int 0)) (some (.ref e)) x15, hput (hput H' e (.exc 37 t)) t (.args [er v])⟩ s₂ := g₂
    generalize hput (hput H' e (.exc 37 t)) t (.args [er v]) = H2 at kp S2 x1 x2 g₂
    refine wp_cons (wp_expr (wp_mcall (am_local 9 g₂ rfl rfl fun v e => ?_)) g₂.notInt)
    cases er_ref e
    refine am_mappend g₂ S2.rf (wp_bargs (wp_sp (wp_callx (am_bltn (v := .type "str") 5 g₂ rfl (by kernel_rfl!) (by kernel_rfl!) (by decide) (wp_targs (wp_sp (am_local 14 g₂ rfl rfl fun v e => ?_)))))))
    cases er_ref e
    refine wp_sp0 (am_strexc (n := n) g₂ x1 x2 (by kernel_rfl!) (by kernel_rfl!) (by have := kf.hr.units; show A.units + _ < _; omega) fun sv esv => wp_sp0 (am_append g₂ S2.rf (by simp; omega) fun s₃ g₃ => wp_nil ⟨_, g₃, fun s₄ g₄ => ?_⟩))
    rw [esv] at g₄
    have e1 : ms.refused.map AV.str ++ [AV.str text] = (ms.refused ++ [text]).map AV.str := by simp
    have g₄ : At fKeeps C ⟨km K most room x6 x7 x10 (some (.ref kl)) (some (.str text)) (some (.int 0)) none x15, hput H2 K.rf (.list (ms.refused.map AV.str ++ [AV.str text]))⟩ s₄ := g₄
    rw [e1] at g₄
    have S3 := S2.rfStep (refused' := ms.refused ++ [text])
    have kb1 : KB K names.length ba H H' := b.kbs fun a ha => let ⟨i, _, q⟩ := touch_in ha; ⟨i, q⟩
    refine k _ _ none g₄ ?_ (fun x hx => ?_) ((kb1.trans kp.kb).trans (But.kb (tl := [K.rf]) ((But.refl _ _).put (.inl (by simp))) 2 fun a ha => by simpa [KIds.groups] using ha))
    · exact S3
    · have h1 := S.ags b (fun a ha => touch_in ha) 1 (by simp) K.cn (by first | trivial | simp [KIds.groups]) x hx
      refine put_keep (kp _ _ h1) fun z => ?_
      exact S.apart 1 2 (a := K.cn) (by first | trivial | simp [KIds.groups]) (by decide) (by rw [z]; simp [KIds.groups])
  · simp at c1
end
end Mine

end
section
open PySem PySem.W PyProof.Rows PySem.Calls PyProof.Rows.LCg
set_option linter.unusedVariables false
namespace Mine
theorem quoted_len : ∀ (n : Nat) (r : List Nat), r.length ≤ n → (quoted r).1.length + (quoted r).2.length ≤ r.length
  | 0, r, h => by
    have : r = [] := List.length_eq_zero_iff.mp (by omega)
    subst this; simp [quoted]
  | n + 1, [], h => by simp [quoted]
  | n + 1, c :: r, h => by
    simp only [List.length_cons] at h
    by_cases h1 : c = 34
    · subst h1; rw [quoted_end]; simp
    · by_cases h2 : c = 92
      · subst h2
        rw [quoted_esc]
        have := quoted_len n (r.drop 1) (by rw [List.length_drop]; omega)
        simp only [List.length_append, List.length_take, List.length_drop, List.length_cons] at this ⊢
        omega
      · rw [quoted_else c r h1 h2]
        have := quoted_len n r (by omega)
        simp only [List.length_cons]; omega
theorem bare_len : ∀ (n : Nat) (r : List Nat), r.length ≤ n → (bareT r).1.length + (bareT r).2.length ≤ r.length
  | 0, r, h => by
    have : r = [] := List.length_eq_zero_iff.mp (by omega)
    subst this; simp [bareT]
  | n + 1, [], h => by simp [bareT]
  | n + 1, c :: r, h => by
    simp only [List.length_cons] at h
    by_cases h1 : isWh c = true
    · rw [bare_end c r h1]; simp
    · by_cases h2 : c = 92
      · subst h2
        rw [bare_esc]
        have := bare_len n (r.drop 1) (by rw [List.length_drop]; omega)
        simp only [List.length_append, List.length_take, List.length_drop, List.length_cons] at this ⊢
        omega
      · rw [bare_else c r (by simpa using h1) h2]
        have := bare_len n r (by omega)
        simp only [List.length_cons]; omega
theorem token_len : ∀ (r : List Nat), (token r).1.length + (token r).2.length ≤ r.length
  | [] => by simp [token]
  | c :: r => by
    by_cases h1 : isWh c = true
    · rw [token_white c r h1]
      have := token_len r
      simp only [List.length_cons]; omega
    · by_cases h2 : c = 34
      · subst h2; rw [token_quote]
        have := quoted_len _ r (Nat.le_refl _)
        simp only [List.length_cons]; omega
      · by_cases h3 : c = 92
        · subst h3; rw [token_esc]
          have := bare_len _ (r.drop 1) (Nat.le_refl _)
          simp only [List.length_append, List.length_take, List.length_drop, List.length_cons] at this ⊢
          omega
        · rw [token_else c r (by simpa using h1) h2 h3]
          have := bare_len _ r (Nat.le_refl _)
          simp only [List.length_cons]; omega
/-- the machine within bounds, behind j turns -/
structure MSok (j : Nat) (ms : MS) : Prop where
  rest : ms.rest.length ≤ 1000
  pb : ms.pb = [] ∨ ∃ a b, ms.pb = [a, b] ∧ b.length ≤ 1000
  l0 : 0 ≤ ms.left
  l1 : ms.left ≤ 1000
  sg : ms.signs.length ≤ j
  fl : ms.signs.flatten.length ≤ 1000 * j
  rf : ms.refused.length ≤ j
  bk : ms.books.length ≤ j
theorem getTok_two {ms : MS} {j : Nat} (h : MSok j ms) : let t1 := getTok ms.pb ms.rest; let t2 := getTok t1.2.1 t1.2.2; t2.2.1 = [] ∧ t2.1.length ≤ 1000 ∧ t2.2.2.length ≤ 1000 ∧ t1.2.2.length ≤ 1000 ∧ t1.2.1.length ≤ 1 := by
  rcases h.pb with e | ⟨a, b, e, hb⟩
  · rw [e]
    have h1 := token_len ms.rest
    have h2 := token_len (token ms.rest).2
    have := h.rest
    refine ⟨rfl, ?_, ?_, ?_, ?_⟩
    · show (token (token ms.rest).2).1.length ≤ 1000; omega
    · show (token (token ms.rest).2).2.length ≤ 1000; omega
    · show (token ms.rest).2.length ≤ 1000; omega
    · exact Nat.zero_le _
  · rw [e]
    exact ⟨rfl, hb, h.rest, h.rest, Nat.le_refl _⟩
theorem MSok.turn {ms ms' : MS} {j : Nat} {names : List (List Nat)} {most room : Int} (h : MSok j ms) (hr : 0 ≤ room) (hr' : room ≤ 1000) (e : turnM names most room ms = .inl ms') : MSok (j + 1) ms' := by
  obtain ⟨g1, g2, g3, _⟩ := getTok_two h
  unfold turnM at e
  dsimp only at e g1 g2 g3
  generalize getTok ms.pb ms.rest = t1 at e g1 g2 g3
  generalize getTok t1.2.1 t1.2.2 = t2 at e g1 g2 g3
  cases hk : known names t1.1 with
  | nil => rw [hk] at e; cases e
  | cons a kn =>
    rw [hk] at e
    simp only [Sum.inl.injEq] at e
    subst e
    rw [g1]
    obtain ⟨q1, q2, q3, q4, q5, q6, q7, q8⟩ := h
    have hw : ∀ r : MS × Nat, r = writeM names.length most room (a + 1) t2.1 { ms with pb := [], rest := t2.2.2 } → r.1.rest = t2.2.2 ∧ r.1.pb = [] ∧ 0 ≤ r.1.left ∧ r.1.left ≤ 1000 ∧ r.1.signs.length ≤ j + 1 ∧ r.1.signs.flatten.length ≤ 1000 * (j + 1) ∧ r.1.refused.length ≤ j + 1 ∧ r.1.books = ms.books := fun r er => by
      subst er
      unfold writeM
      split
      · exact ⟨rfl, rfl, hr, hr', by dsimp only; omega, by dsimp only; omega, by simp; omega, rfl⟩
      · dsimp only
        have lt : (t2.1.take (min most ms.left).toNat).length ≤ 1000 := by rw [List.length_take]; omega
        have lt2 : ((t2.1.take (min most ms.left).toNat).length : Int) ≤ max 0 ms.left := by rw [List.length_take]; omega
        refine ⟨rfl, rfl, by omega, by omega, by simp; omega, ?_, by omega, rfl⟩
        rw [List.flatten_append, List.length_append]
        simp only [List.flatten_cons, List.flatten_nil, List.append_nil]
        omega
    obtain ⟨w1, w2, w3, w4, w5, w6, w7, w8⟩ := hw _ rfl
    generalize writeM names.length most room (a + 1) t2.1 { ms with pb := [], rest := t2.2.2 } = r at w1 w2 w3 w4 w5 w6 w7 w8 ⊢
    have hp : (pushM t1.1 t2.1 r).rest = r.1.rest ∧ (pushM t1.1 t2.1 r).left = r.1.left ∧ (pushM t1.1 t2.1 r).signs = r.1.signs ∧ (pushM t1.1 t2.1 r).refused = r.1.refused ∧ (pushM t1.1 t2.1 r).books = r.1.books ∧ ((pushM t1.1 t2.1 r).pb = [] ∨ ∃ a b, (pushM t1.1 t2.1 r).pb = [a, b] ∧ b.length ≤ 1000) := by
      unfold pushM
      split
      · refine ⟨rfl, rfl, rfl, rfl, rfl, .inr ⟨t1.1, t2.1.drop r.2, by dsimp only; rw [w2]; rfl, by rw [List.length_drop]; omega⟩⟩
      · exact ⟨rfl, rfl, rfl, rfl, rfl, .inl w2⟩
    obtain ⟨p1, p2, p3, p4, p5, p6⟩ := hp
    refine ⟨by show (pushM t1.1 t2.1 r).rest.length ≤ _; rw [p1, w1]; exact g3, p6, by show 0 ≤ (pushM t1.1 t2.1 r).left; rw [p2]; exact w3, by show (pushM t1.1 t2.1 r).left ≤ _; rw [p2]; exact w4, by show (pushM t1.1 t2.1 r).signs.length ≤ _; rw [p3]; exact w5, by show (pushM t1.1 t2.1 r).signs.flatten.length ≤ _; rw [p3]; exact w6, by show (pushM t1.1 t2.1 r).refused.length ≤ _; rw [p4]; exact w7, ?_⟩
    show ((pushM t1.1 t2.1 r).books ++ _).length ≤ _
    rw [List.length_append, p5, w8]; simp; omega
end Mine

end
section
open PySem PySem.W PyProof.Rows PySem.Calls PyProof.Rows.LCg
set_option linter.unusedVariables false
namespace Mine
theorem KB.cn {K : KIds} {N : Nat} {ba : List Addr} {H : Addr → Option AO} {o : AO} : KB K N ba H (hput H K.cn o) :=
  But.kb (tl := [K.cn]) ((But.refl _ _).put (.inl (by simp))) 1 fun a ha => by simpa [KIds.groups] using ha
theorem lex_kb {K : KIds} {N : Nat} {ba : List Addr} {H H' : Addr → Option AO} (b : But [K.l.i.pl, K.l.dx, K.l.pb] H H') : KB K N ba H H' :=
  b.kb 7 fun a ha => by
    simp only [List.mem_cons, List.not_mem_nil, or_false] at ha
    rcases ha with rfl | rfl | rfl <;> simp [KIds.groups, lexAddrs]
theorem kqd_int (i : Int) : kqdOk 8 (.int i) = true := rfl
theorem swaps_true {env : Env} {elt : Expr} {gens : List Comprehension} {scope : Scope} {pos : Pos} {t : Str} {tp : Pos} {line : Nat} (h1 : env.scope.kind = .function) (h2 : env.kindOf t = some .local) (h3 : (tp.line == pos.line) = true) (h4 : (!(scope.names.any fun (n, k) => n == t && (k == .local || k == .cell))) = true) :
    swapsWith (.ListComp elt gens scope pos) (some (.Name t tp)) line env = pure true := by
  unfold swapsWith Env.blockKind
  have h3' : (tp.line == (Expr.ListComp elt gens scope pos).pos.line) = true := h3
  simp [h1, h2, h3', h4]
section
variable {C : Cx} {s : Shared} {A : Around} {n : Nat} {fs : List Env} {H0 H : Addr → Option AO} {K : KIds} {names : List (List Nat)} {page : List Nat} {most room : Int} {ms : MS} {ba : List Addr} {bxs : List AV} {x6 x7 x10 x11 x12 x13 x14 x15 : Option AV} {E : Value → Shared → Prop} {Q : Flow → Shared → Prop}
/-- the known accounts -/
theorem known_spec {name : List Nat} (h : At fKeeps C ⟨km K most room x6 x7 x10 x11 x12 x13 x14 x15, H⟩ s) (kf : KF C A K fs n) (S : KS H0 K names page most room ms ba bxs H) (hcn : H K.cn = some (.cell (some (.str name)))) (hn : names.length ≤ 8)
    (k : ∀ kl H' s', At fKeeps C ⟨km K most room x6 x7 x10 (some (.ref kl)) x12 x13 x14 x15, H'⟩ s' → Kp H H' → H kl = none → H' kl = some (.list ((known names name).map fun i => AV.int (i : Nat))) → Q .next s') :
    Wp C.w A (exec (nth (forB stTurn) 1) C.env) Q E s := by
  refine am_lcompA (F' := fKnown) 11 ["name", "names"] [K.cn, K.cN] h.env (by kernel_rfl!) (.cons 2 rfl kf.c2 (.cons 0 rfl kf.c0 .nil)) rfl ?_ ?_
  · have q1 : C.env.kindOf "known" = some .local := (h.env.nm 11 "known" rfl).1
    exact swaps_true h.env.kind q1 rfl rfl
  refine wp_callx (am_bltn (v := .type "range") 1 h rfl (by kernel_rfl!) (by kernel_rfl!) (by decide) (wp_targs (wp_sp (wp_callx (am_bltn (v := .builtin "len") 2 h rfl (by kernel_rfl!) (by kernel_rfl!) (by decide) (wp_bargs (wp_sp (am_cell 0 h rfl kf.c0 S.cN fun v e => ?_))))))))
  cases er_ref e
  refine wp_sp0 (am_len h S.nl (by simp; omega) fun lv s₄ h₄ e₄ => wp_sp0 (am_range1 h₄ e₄ fun Dr s₅ t u w hDr h₅ => am_iter_range h₅ (hput_self _ _ _) (small_of (by omega) (by omega) (by rw [List.length_map]; omega) (by rw [List.length_map]; omega) (.inl rfl)) fun it s₆ hit h₆ => ?_))
  have hDr : H Dr = none := hDr
  have kp1 : Kp H (hput H Dr (.raw (rngObj 0 ((names.map AV.str).length : Nat) 1 t u w))) := (Kp.refl H).new hDr
  have it0 : H it = none := kp1.no hit
  have kp2 := kp1.new (o := .it (.range 0 (Builtin.Range.rangeSize 0 ((names.map AV.str).length : Nat) 1) 1)) hit
  have h₆ : At fKeeps C ⟨km K most room x6 x7 x10 x11 x12 x13 x14 x15, hput (hput H Dr (.raw (rngObj 0 ((names.map AV.str).length : Nat) 1 t u w))) it (.it (.range 0 (Builtin.Range.rangeSize 0 ((names.map AV.str).length : Nat) 1) 1))⟩ s₆ := h₆
  have hi2 : hput (hput H Dr (.raw (rngObj 0 ((names.map AV.str).length : Nat) 1 t u w))) it (.it (.range 0 (Builtin.Range.rangeSize 0 ((names.map AV.str).length : Nat) 1) 1)) it = some (.it (.range 0 (Builtin.Range.rangeSize 0 ((names.map AV.str).length : Nat) 1) 1)) := hput_self _ _ _
  generalize hput (hput H Dr (.raw (rngObj 0 ((names.map AV.str).length : Nat) 1 t u w))) it (.it (.range 0 (Builtin.Range.rangeSize 0 ((names.map AV.str).length : Nat) 1) 1)) = H2 at h₆ hi2 kp2
  rw [List.length_map] at hi2
  refine comp_range names.length (fun j xs _ => xs = outKnown names name j ∧ j ≤ names.length) h₆ (kf.hr.cast (m := n) (by omega)) hi2 rfl (by kernel_rfl!) (fun _ _ _ _ h _ => h) (fun _ => ⟨rfl, Nat.zero_le _⟩) (fun j xs _ e => ?_) (fun j C' H' D xs s' hj hw hca b hD hd ho hi h' => ?_) fun D H3 xs b hD hd ho s₇ h₇ => ?_
  · rw [e.1]; unfold outKnown; rw [List.length_map]
    exact Nat.le_trans (List.length_filter_le _ _) (by simp; omega)
  · have c0 : C'.ca[0]? = some K.cn := by rw [hca]; rfl
    have c1 : C'.ca[1]? = some K.cN := by rw [hca]; rfl
    have kk : ∀ {a ao}, H a = some ao → H' a = some ao := fun {a ao} e => b a ao (fun z => by rw [List.mem_singleton.mp z, it0] at e; cases e) (kp2 a ao e)
    refine wp_tests1 (wp_tcmp (wp_sub (am_cell 1 h' rfl c1 (kk S.cN) fun v e => ?_)))
    cases er_ref e
    have hx : (names.map AV.str)[(j : Int).toNat]? = some (.str (names[j]'hj)) := by simp [hj]
    refine am_local 0 h' rfl rfl fun v e => am_tailitem h' (.inl (kk S.nl)) e (by omega) hx (by omega) fun nv en => am_cell 0 h' rfl c0 (kk hcn) fun v₂ e₂ => am_seq en e₂ (am_truthy_bool ?_)
    have en : (names[j]? == some name) = (names[j]'hj == name) := by rw [List.getElem?_eq_getElem hj]; rfl
    have os : outKnown names name (j + 1) = if (names[j]? == some name) = true then outKnown names name j ++ [.int (j : Nat)] else outKnown names name j := by
      unfold outKnown
      rw [List.range_succ, List.filter_append, List.map_append]
      cases hq : names[j]? == some name <;> simp [hq]
    rw [en] at os
    cases hq : (names[j]'hj == name) with
    | true =>
      rw [hq, if_pos rfl] at os
      rw [if_pos rfl]
      exact am_local 0 h' rfl rfl fun v₃ e₃ => ⟨H', fun _ _ e => e, h', by rw [os, ho.1, e₃], by omega⟩
    | false =>
      rw [hq, if_neg (by decide)] at os
      rw [if_neg (by decide)]
      exact ⟨H', fun _ _ e => e, h', by rw [os, ho.1], by omega⟩
  · have kp3 : Kp H H3 := fun a ao e => b a ao (fun z => by rw [List.mem_singleton.mp z, it0] at e; cases e) (kp2 a ao e)
    exact k D H3 s₇ h₇ kp3 (kp2.no hD) (by rw [hd, ho.1]; rfl)
end
end Mine

end
section
open PySem PySem.W PyProof.Rows PySem.Calls PyProof.Rows.LCg
set_option linter.unusedVariables false
namespace Mine
section
variable {C : Cx} {s : Shared} {A : Around} {n : Nat} {fs : List Env} {H0 H : Addr → Option AO} {K : KIds} {names : List (List Nat)} {page : List Nat} {most room : Int} {ms : MS} {ba : List Addr} {bxs : List AV} {x6 x7 x10 x11 x12 x13 x14 x15 : Option AV} {E : Value → Shared → Prop} {Q : Flow → Shared → Prop}
theorem KS.booksLen (S : KS H0 K names page most room ms ba bxs H) : bxs.length = ms.books.length := S.bks.1
theorem turn_spec {j : Nat} (h : At fKeeps C ⟨km K most room x6 x7 x10 x11 x12 x13 x14 x15, H⟩ s) (kf : KF C A K fs n) (S : KS H0 K names page most room ms ba bxs H) (B : MSok j ms) (hj : j ≤ 90) (hn : names.length ≤ 8) (hp : page.length ≤ 1000)
    (hm : 0 ≤ most) (hm' : most ≤ 1000) (hr : 0 ≤ room) (hr' : room ≤ 1000)
    (kb : ∀ name ms' H' s' x11', turnM names most room ms = .inr (name, ms') → At fKeeps C ⟨km K most room x6 x7 x10 x11' x12 x13 x14 x15, H'⟩ s' → KS H0 K names page most room ms' ba bxs H' → H' K.cn = some (.cell (some (.str name))) → KB K names.length ba H H' → Q .brk s')
    (kn : ∀ ms' H' s' x11' x12' x13' x14' a l, turnM names most room ms = .inl ms' → At fKeeps C ⟨km K most room x6 x7 x10 x11' x12' x13' x14' x15, H'⟩ s' → KS H0 K names page most room ms' (a :: l :: ba) (bxs ++ [.ref a]) H' → KB K names.length ba H H' → H a = none → H l = none → Q .next s') :
    Wp C.w A (execs (forB stTurn) C.env) Q E s := by
  obtain ⟨g1, g2, g3, g4, g5⟩ := getTok_two B
  have pb2 : ms.pb.length ≤ 2 := by rcases B.pb with e | ⟨a, b, e, _⟩ <;> rw [e] <;> simp
  -- name = lexer.get_token()
  refine wp_cons (wp_assign (tokr (n := n) h (kf.hr.cast (by omega)) S rfl (by omega) (by omega) fun H1 s₁ v ev h₁ S1 b1 => ?_))
  obtain ⟨cv, hcv⟩ := S1.cn
  refine am_storecell 2 h₁ rfl kf.c2 hcv fun s₂ h₂ => ?_
  rw [ev] at h₂
  have S2 := S1.cnStep (v := some (.str (getTok ms.pb ms.rest).1))
  have hcn2 : hput H1 K.cn (.cell (some (.str (getTok ms.pb ms.rest).1))) K.cn = some (.cell (some (.str (getTok ms.pb ms.rest).1))) := hput_self _ _ _
  have kb2 : KB K names.length ba H (hput H1 K.cn (.cell (some (.str (getTok ms.pb ms.rest).1)))) := (lex_kb b1).trans KB.cn
  have h₂ : At fKeeps C ⟨km K most room x6 x7 x10 x11 x12 x13 x14 x15, hput H1 K.cn (.cell (some (.str (getTok ms.pb ms.rest).1)))⟩ s₂ := h₂
  generalize hput H1 K.cn (.cell (some (.str (getTok ms.pb ms.rest).1))) = H2 at h₂ S2 hcn2 kb2
  -- known
  refine wp_cons (known_spec (n := n) h₂ kf S2 hcn2 hn fun kl H3 s₃ h₃ kp3 hkl0 hkl => ?_)
  have S3 := S2.kp kp3
  have hcn3 := kp3 _ _ hcn2
  have kb3 := kb2.trans (kp3.kb (K := K) (N := names.length) (ba := ba))
  -- if known == []
  refine wp_cons (wp_if (wp_tcmp (am_local 11 h₃ rfl rfl fun v e => ?_)))
  cases er_ref e
  refine wp_list (wp_sp0 (am_newlist h₃ (Nat.zero_le _) fun D s₄ hD h₄ => ?_))
  have hD : H3 D = none := hD
  have kp4 := (Kp.refl H3).new (o := .list []) hD
  have h₄ : At fKeeps C ⟨km K most room x6 x7 x10 (some (.ref kl)) x12 x13 x14 x15, hput H3 D (.list [])⟩ s₄ := h₄
  have hD4 : hput H3 D (.list []) D = some (.list []) := hput_self _ _ _
  generalize hput H3 D (.list []) = H4 at h₄ kp4 hD4
  have S4 := S3.kp kp4
  have hcn4 := kp4 _ _ hcn3
  have hkl4 := kp4 _ _ hkl
  have kb4 := kb3.trans (kp4.kb (K := K) (N := names.length) (ba := ba))
  refine am_leq (n := n) h₄ hkl4 hD4 (ds := (known names (getTok ms.pb ms.rest).1).map fun i => W.Dat.int (i : Nat)) (es := []) ?_ .nil (fun d hd => ?_) (fun d hd => by cases hd) (kf.hr.cast (by omega)) (am_truthy_bool ?_)
  · have := adats_ints (H := H4) ((known names (getTok ms.pb ms.rest).1).map fun i => ((i : Nat) : Int))
    rw [List.map_map, List.map_map] at this
    exact this
  · obtain ⟨i, _, rfl⟩ := List.mem_map.mp hd
    exact kqd_int _
  cases hkn : known names (getTok ms.pb ms.rest).1 with
  | nil =>
    rw [hkn] at hkl4
    rw [if_pos (by simp)]
    refine wp_cons (wp_brk ?_)
    have et : turnM names most room ms = .inr ((getTok ms.pb ms.rest).1, { ms with pb := (getTok ms.pb ms.rest).2.1, rest := (getTok ms.pb ms.rest).2.2 }) := by
      unfold turnM; dsimp only; rw [hkn]
    exact kb _ _ H4 s₄ _ et h₄ S4 hcn4 kb4
  | cons a kn' =>
    rw [hkn] at hkl4
    rw [if_neg (by simp)]
    refine wp_nil ?_
    have ha : a < names.length := by
      have : a ∈ known names (getTok ms.pb ms.rest).1 := by rw [hkn]; simp
      unfold known at this
      exact List.mem_range.mp (List.mem_filter.mp this).1
    have et : turnM names most room ms = .inl (bookM names.length (pushM (getTok ms.pb ms.rest).1 (getTok (getTok ms.pb ms.rest).2.1 (getTok ms.pb ms.rest).2.2).1 (writeM names.length most room (a + 1) (getTok (getTok ms.pb ms.rest).2.1 (getTok ms.pb ms.rest).2.2).1 { ms with pb := (getTok (getTok ms.pb ms.rest).2.1 (getTok ms.pb ms.rest).2.2).2.1, rest := (getTok (getTok ms.pb ms.rest).2.1 (getTok ms.pb ms.rest).2.2).2.2 }))) := by
      unfold turnM; dsimp only; rw [hkn]
    have B' := B.turn hr hr' et
    rw [et] at kn
    generalize (getTok ms.pb ms.rest).1 = name at *
    generalize (getTok ms.pb ms.rest).2.1 = pb1 at *
    generalize (getTok ms.pb ms.rest).2.2 = r1 at *
    -- text = lexer.get_token()
    refine wp_cons (wp_assign (tokr (n := n) h₄ (kf.hr.cast (by omega)) S4 rfl (by omega) (by dsimp only; omega) fun H5 s₅ v ev h₅ S5 b5 => am_store 12 h₅ rfl fun s₆ h₆ => ?_))
    rw [ev] at h₆
    have hcn5 : H5 K.cn = some (.cell (some (.str name))) := b5 _ _ (fun z => S4.apart 1 7 (a := K.cn) (by first | trivial | simp [KIds.groups]) (by decide) (by
      simp only [List.mem_cons, List.not_mem_nil, or_false] at z
      rcases z with z | z | z <;> rw [z] <;> simp [KIds.groups, lexAddrs])) hcn4
    have hkl5 : H5 kl = some (.list ((a :: kn').map fun i => AV.int (i : Nat))) := b5 _ _ (fun z => S2.newApart hkl0 (lexAddrs K.l) (by first | trivial | simp [KIds.groups]) (by
      simp only [List.mem_cons, List.not_mem_nil, or_false] at z
      rcases z with z | z | z <;> rw [z] <;> simp [lexAddrs])) hkl4
    have kb5 := kb4.trans (lex_kb b5)
    dsimp only at S5 h₆
    have h₆ : At fKeeps C ⟨km K most room x6 x7 x10 (some (.ref kl)) (some (.str (getTok pb1 r1).1)) x13 x14 x15, H5⟩ s₆ := h₆
    generalize getTok pb1 r1 = t2 at *
    -- taken = 0
    refine wp_cons (wp_assign (am_cint h₆ fun zv s₇ h₇ ez => am_store 13 h₇ rfl fun s₈ h₈ => ?_))
    rw [ez] at h₈
    have h₈ : At fKeeps C ⟨km K most room x6 x7 x10 (some (.ref kl)) (some (.str t2.1)) (some (.int 0)) x14 x15, H5⟩ s₈ := h₈
    have Bs := B.sg
    have Br := B.rf
    have Bb := B.bk
    have Bf := B.fl
    refine wp_cons (try_spec (n := n) h₈ kf S5 hkl5 ha hn hm hm' B.l0 B.l1 g2 (by dsimp only; omega) (by dsimp only; omega) fun H6 s₉ x14' h₉ S6 hc6 kb6 => ?_)
    have hcn6 := hc6 _ hcn5
    have hw : ∀ r : MS × Nat, r = writeM names.length most room (a + 1) t2.1 { ms with pb := t2.2.1, rest := t2.2.2 } → r.1.signs.flatten.length ≤ 100000 ∧ r.1.pb = [] := fun r er => by
      subst er
      unfold writeM
      split
      · exact ⟨by dsimp only; omega, g1⟩
      · refine ⟨?_, g1⟩
        dsimp only
        have lt : (t2.1.take (min most ms.left).toNat).length ≤ 1000 := by rw [List.length_take]; omega
        rw [List.flatten_append, List.length_append]
        simp only [List.flatten_cons, List.flatten_nil, List.append_nil]
        omega
    obtain ⟨w1, w2⟩ := hw _ rfl
    generalize writeM names.length most room (a + 1) t2.1 { ms with pb := t2.2.1, rest := t2.2.2 } = r at *
    have kb6' := kb5.trans kb6
    have nb : ∀ {x}, H6 x = none → H x = none := fun {x} hx => by
      cases z : H x with
      | none => rfl
      | some ao =>
        exfalso
        by_cases q : ∀ g ∈ K.groups names.length ba, x ∉ g
        · rw [kb6' x ao q z] at hx; cases hx
        · refine q fun g hg hm => ?_
          exact S6.knw g hg x hm hx
    have Sl := S.booksLen
    exact behind_spec (n := n) h₉ kf S6 hcn6 hn w1 (by omega) g2 (by rw [w2]; simp) fun H' s' a' l g S' kb ha hl => kn _ H' s' _ _ _ _ a' l rfl g S' (kb6'.trans kb) (nb ha) (nb hl)
end
end Mine

end
section
open PySem PySem.W PyProof.Rows PySem.Calls PyProof.Rows.LCg
set_option linter.unusedVariables false
namespace Mine
structure MSfin (ms : MS) : Prop where
  fl : ms.signs.flatten.length ≤ 100000
  sg : ms.signs.length ≤ 1000
  rf : ms.refused.length ≤ 1000
  bk : ms.books.length ≤ 1000
  l0 : 0 ≤ ms.left
  l1 : ms.left ≤ 1000
section
variable {C : Cx} {s : Shared} {A : Around} {n : Nat} {fs : List Env} {H0 H : Addr → Option AO} {K : KIds} {names : List (List Nat)} {page : List Nat} {most room : Int} {ms msf : MS} {x6 x7 x10 x11 x12 x13 x14 x15 : Option AV} {E : Value → Shared → Prop} {Q : Flow → Shared → Prop} {name : List Nat}
theorem loop_spec (h : At fKeeps C ⟨km K most room x6 x7 x10 x11 x12 x13 x14 x15, H⟩ s) (kf : KF C A K fs n) (S : KS H0 K names page most room ms [] [] H) (B : MSok 0 ms) (hrun : runM names most room 60 ms = some (name, msf)) (hn : names.length ≤ 8) (hp : page.length ≤ 1000)
    (hm : 0 ≤ most) (hm' : most ≤ 1000) (hr : 0 ≤ room) (hr' : room ≤ 1000)
    (k : ∀ H' s' ba bxs x10' x11' x12' x13' x14', At fKeeps C ⟨km K most room x6 x7 x10' x11' x12' x13' x14' x15, H'⟩ s' → KS H0 K names page most room msf ba bxs H' → H' K.cn = some (.cell (some (.str name))) → MSfin msf → Q .next s') :
    Wp C.w A (exec (nth bKeeps 4) C.env) Q E s := by
  refine wp_for (wp_callx (am_bltn (v := .type "range") 1 h rfl (by kernel_rfl!) (by kernel_rfl!) (by decide) (wp_targs (wp_sp (am_cint h fun nv s₁ h₁ e₁ => wp_sp0 (am_range1 h₁ e₁ fun Dr s₂ t u w hDr h₂ => am_iter_range h₂ (hput_self _ _ _) (small_of (by decide) (by decide) (by decide) (by decide) (.inl rfl)) fun it s₃ hit h₃ => ?_))))))
  have hDr : H Dr = none := hDr
  have kp1 : Kp H (hput H Dr (.raw (rngObj 0 60 1 t u w))) := (Kp.refl H).new hDr
  have it0 : H it = none := kp1.no hit
  have kp2 := kp1.new (o := .it (.range 0 (Builtin.Range.rangeSize 0 60 1) 1)) hit
  have S2 := S.kp kp2
  have ita : ∀ g ∈ K.groups names.length ([] : List Addr), it ∉ g := S.newApart it0
  have itn : H0 it = none := S.new0 it0
  refine cd_range (F := fKeeps) 60 0 1 (fun j σ => ∃ ms' ba bxs y10 y11 y12 y13 y14 H', σ = ⟨km K most room x6 x7 y10 y11 y12 y13 y14 x15, H'⟩ ∧ KS H0 K names page most room ms' ba bxs H' ∧ MSok j ms' ∧ runM names most room (60 - j) ms' = some (name, msf) ∧ ∀ g ∈ K.groups names.length ba, it ∉ g)
    kf.hr.hand (fun j σ kk hI => ?_) (fun j σ hI => ?_) (fun T j σ s v tn tc tb tr hj hI h₄ hi ev => ?_) (fun σ s hI h₄ => ?_) ⟨ms, [], [], _, _, _, _, _, _, rfl, S2, B, hrun, ita⟩ (by rw [show (_ : St).H it = _ from hput_self _ _ _, rsize_up (by decide)]; rfl) h₃
  · obtain ⟨ms', ba, bxs, y10, y11, y12, y13, y14, H', rfl, S', B', r', ia⟩ := hI
    exact ⟨ms', ba, bxs, y10, y11, y12, y13, y14, hput H' it (.it kk), rfl, S'.off ia itn (fun a ao ne e => put_keep e ne), B', r', ia⟩
  · obtain ⟨ms', ba, bxs, y10, y11, y12, y13, y14, H', rfl, S', B', r', ia⟩ := hI
    exact ⟨ms', ba, bxs, y10, y11, y12, y13, y14, hdel H' it, rfl, S'.off ia itn (fun a ao ne e => by unfold hdel; rw [if_neg ne]; exact e), B', r', ia⟩
  · obtain ⟨ms', ba, bxs, y10, y11, y12, y13, y14, H', rfl, S', B', r', ia⟩ := hI
    refine wp_asgn (am_store 10 h₄ rfl fun s₅ h₅ => ?_)
    have h₅ : At fKeeps C ⟨km K most room x6 x7 (some (er v)) y11 y12 y13 y14 x15, H'⟩ s₅ := h₅
    have er1 : 60 - j = (60 - (j + 1)) + 1 := by omega
    rw [er1] at r'
    unfold runM at r'
    refine turn_spec (n := n) h₅ kf S' B' (by omega) hn hp hm hm' hr hr' (fun nm ms2 H2 s₆ x11' et h₆ S6 hc kb => ?_) fun ms2 H2 s₆ y11' y12' y13' y14' a l et h₆ S6 kb ha hl => ?_
    · rw [et] at r'
      simp only [Option.some.injEq, Prod.mk.injEq] at r'
      obtain ⟨rfl, rfl⟩ := r'
      refine tb _ (k H2 s₆ ba bxs _ _ _ _ _ h₆ S6 hc ?_)
      have : ms2.signs = ms'.signs ∧ ms2.refused = ms'.refused ∧ ms2.books = ms'.books ∧ ms2.left = ms'.left := by
        unfold turnM at et
        dsimp only at et
        split at et
        · simp only [Sum.inr.injEq, Prod.mk.injEq] at et
          obtain ⟨_, rfl⟩ := et
          exact ⟨rfl, rfl, rfl, rfl⟩
        · cases et
      obtain ⟨q1, q2, q3, q4⟩ := this
      have b1 := B'.fl
      have b2 := B'.rf
      have b3 := B'.bk
      have b4 := B'.sg
      exact ⟨by rw [q1]; omega, by rw [q1]; omega, by rw [q2]; omega, by rw [q3]; omega, by rw [q4]; exact B'.l0, by rw [q4]; exact B'.l1⟩
    · rw [et] at r'
      dsimp only at r'
      refine tn _ _ ⟨ms2, a :: l :: ba, _, _, _, _, _, _, H2, rfl, S6, B'.turn hr hr' et, r', fun g hg => ?_⟩ (kb it _ ia hi) h₆
      simp only [KIds.groups, List.mem_cons] at hg
      rcases hg with rfl | hg
      · intro z
        have hi' : H' it ≠ none := by rw [show H' it = _ from hi]; nofun
        rcases List.mem_cons.mp z with rfl | z
        · exact hi' ha
        · rcases List.mem_cons.mp z with rfl | z
          · exact hi' hl
          · exact ia ba (.head _) z
      · exact ia g (by simp only [KIds.groups, List.mem_cons]; exact .inr hg)
  · obtain ⟨ms', ba, bxs, y10, y11, y12, y13, y14, H', rfl, S', B', r', ia⟩ := hI
    simp only [Nat.sub_self, runM] at r'
    cases r'
end
end Mine

end
section
open PySem PySem.W PyProof.Rows PySem.Calls PyProof.Rows.LCg
set_option linter.unusedVariables false
namespace Mine
theorem low_and : ∀ i : Nat, 1 ≤ i → i ≤ 8 → PySem.Builtin.bitAnd (i : Int) (-(i : Int)) = (low i : Nat) := by
  intro i h1 h2
  match i, h1, h2 with
  | 1, _, _ => decide
  | 2, _, _ => decide
  | 3, _, _ => decide
  | 4, _, _ => decide
  | 5, _, _ => decide
  | 6, _, _ => decide
  | 7, _, _ => decide
  | 8, _, _ => decide
  | i + 9, _, h => omega
noncomputable abbrev k0 (l : LexIds) (most room : Int) (tp ls lc : Addr) (y6 y7 : Option AV) : List (Option AV) := [some (.ref l.x), some (.int most), some (.int room), some (.ref tp), some (.ref ls), some (.ref lc), y6, y7, none, none, none, none, none, none, none, none]
/-- the tree so far: above lo -/
structure Pt (Hs H : Addr → Option AO) (t : Tree) (tp td it : Addr) (N lo : Nat) (f : Int → Option AV) : Prop where
  x : ∀ i, lo < i → i ≤ N → H (t.X i) = some (.inst 85 (t.D i))
  d : ∀ i, lo < i → i ≤ N → H (t.D i) = some (.attrs tNames [.ref (upTo t tp N (i + low i)), .int 0])
  inj : ∀ i j, lo < i → i ≤ N → lo < j → j ≤ N → t.D i = t.D j → i = j
  f : ∀ i : Nat, lo < i → i ≤ N → f i = some (.ref (t.X i))
  fr : ∀ i, lo < i → i ≤ N → Hs (t.X i) = none ∧ Hs (t.D i) = none ∧ t.X i ≠ it ∧ t.D i ≠ it
section
variable {C : Cx} {s : Shared} {A : Around} {n : Nat} {H : Addr → Option AO} {names : List (List Nat)} {most room : Int} {l : LexIds} {tp ls lc cN cT nl td : Addr} {E : Value → Shared → Prop} {Q : Flow → Shared → Prop}
theorem build_spec (h : At fKeeps C ⟨k0 l most room tp ls lc none none, H⟩ s) (hr : Rm A (n + 5)) (c0 : C.ca[0]? = some cN) (c1 : C.ca[1]? = some cT) (hcN : H cN = some (.cell (some (.ref nl)))) (hnl : H nl = some (.list (names.map AV.str))) (hcT : H cT = some (.cell (some (.ref td)))) (htd : H td = some (.imap (fun _ => none) 0)) (hn : names.length ≤ 8)
    (k : ∀ t H' s' y6 y7, At fKeeps C ⟨k0 l most room tp ls lc y6 y7, H'⟩ s' → But [td] H H' → (∃ f nn, H' td = some (.imap f nn) ∧ ∀ i : Nat, 1 ≤ i → i ≤ names.length → f i = some (.ref (t.X i))) → TreeAt H' t tp names.length (fun _ => 0) → (∀ a ∈ treeAddrs t names.length, H a = none) → Q .next s') :
    Wp C.w A (exec (nth bKeeps 2) C.env) Q E s := by
  refine wp_for (wp_callx (am_bltn (v := .type "range") 1 h rfl (by kernel_rfl!) (by kernel_rfl!) (by decide) (wp_targs (wp_sp (wp_callx (am_bltn (v := .builtin "len") 2 h rfl (by kernel_rfl!) (by kernel_rfl!) (by decide) (wp_bargs (wp_sp (am_cell 0 h rfl c0 hcN fun v e => ?_)))))))))
  cases er_ref e
  refine wp_sp0 (am_len h hnl (by simp; omega) fun lv s₁ h₁ e₁ => wp_sp (am_cint h₁ fun zv s₂ h₂ e₂ => wp_sp (wp_unop (am_cint h₂ fun ov s₃ h₃ e₃ => am_neg h₃ e₃ fun mv s₄ h₄ e₄ => wp_sp0 (am_range3 h₄ e₁ e₂ e₄ (by decide) fun Dr s₅ tt u w hDr h₅ => am_iter_range h₅ (hput_self _ _ _) (small_of (by omega) (by rw [List.length_map]; omega) (by decide) (by decide) (.inr rfl)) fun it s₆ hit h₆ => ?_)))))
  have hDr : H Dr = none := hDr
  have kp1 : Kp H (hput H Dr (.raw (rngObj ((names.map AV.str).length : Nat) 0 (-1) tt u w))) := (Kp.refl H).new hDr
  have it0 : H it = none := kp1.no hit
  have kp2 := kp1.new (o := .it (.range ((names.map AV.str).length : Nat) (Builtin.Range.rangeSize ((names.map AV.str).length : Nat) 0 (-1)) (-1))) hit
  have h₆ : At fKeeps C ⟨k0 l most room tp ls lc none none, hput (hput H Dr (.raw (rngObj ((names.map AV.str).length : Nat) 0 (-1) tt u w))) it (.it (.range ((names.map AV.str).length : Nat) (Builtin.Range.rangeSize ((names.map AV.str).length : Nat) 0 (-1)) (-1)))⟩ s₆ := h₆
  have hi2 : hput (hput H Dr (.raw (rngObj ((names.map AV.str).length : Nat) 0 (-1) tt u w))) it (.it (.range ((names.map AV.str).length : Nat) (Builtin.Range.rangeSize ((names.map AV.str).length : Nat) 0 (-1)) (-1))) it = some (.it (.range ((names.map AV.str).length : Nat) (Builtin.Range.rangeSize ((names.map AV.str).length : Nat) 0 (-1)) (-1))) := hput_self _ _ _
  generalize hput (hput H Dr (.raw (rngObj ((names.map AV.str).length : Nat) 0 (-1) tt u w))) it (.it (.range ((names.map AV.str).length : Nat) (Builtin.Range.rangeSize ((names.map AV.str).length : Nat) 0 (-1)) (-1))) = H2 at h₆ hi2 kp2
  rw [List.length_map, rsize_dn (by omega), Int.sub_zero] at hi2
  have tdit : td ≠ it := fun z => by rw [z, it0] at htd; cases htd
  have known : ∀ {H' a ao}, But [td] H H' → H a = some ao → ao ≠ .imap (fun _ => none) 0 → H' a = some ao := fun {H' a ao} b e ne => b a ao (fun z => ne_of e htd ne (List.mem_singleton.mp z)) e
  refine cd_range (F := fKeeps) names.length names.length (-1) (fun j σ => ∃ t y6 y7 f nn H', σ = ⟨k0 l most room tp ls lc y6 y7, H'⟩ ∧ But [td] H H' ∧ H' td = some (.imap f nn) ∧ nn ≤ j ∧ Pt H H' t tp td it names.length (names.length - j) f)
    hr.hand (fun j σ kk hI => ?_) (fun j σ hI => ?_) (fun T j σ s v tn tc tb tr hj hI h₇ hi ev => ?_) (fun σ s hI h₇ => ?_) ⟨⟨fun _ => 0, fun _ => 0⟩, none, none, _, _, H2, rfl, kp2.but _, kp2 _ _ htd, Nat.le_refl _, ⟨fun i a b => by omega, fun i a b => by omega, fun i j a b => by omega, fun i a b => by omega, fun i a b => by omega⟩⟩ hi2 h₆
  · obtain ⟨t, y6, y7, f, nn, H', rfl, b, ht, hnn, P⟩ := hI
    exact ⟨t, y6, y7, f, nn, hput H' it (.it kk), rfl, b.put (.inr it0), put_keep ht tdit, hnn, ⟨fun i x y => put_keep (P.x i x y) (P.fr i x y).2.2.1, fun i x y => put_keep (P.d i x y) (P.fr i x y).2.2.2, P.inj, P.f, P.fr⟩⟩
  · obtain ⟨t, y6, y7, f, nn, H', rfl, b, ht, hnn, P⟩ := hI
    have kd : ∀ {a ao}, H' a = some ao → a ≠ it → hdel H' it a = some ao := fun {a ao} e ne => by unfold hdel; rw [if_neg ne]; exact e
    exact ⟨t, y6, y7, f, nn, hdel H' it, rfl, (fun a ao na e => kd (b a ao na e) fun z => by rw [z, it0] at e; cases e), kd ht tdit, hnn, ⟨fun i x y => kd (P.x i x y) (P.fr i x y).2.2.1, fun i x y => kd (P.d i x y) (P.fr i x y).2.2.2, P.inj, P.f, P.fr⟩⟩
  · obtain ⟨t, y6, y7, f, nn, H', rfl, b, ht, hnn, P⟩ := hI
    have hi : H' it = some (.it (.range (names.length + -1 * (j : Int) + -1) (names.length - j - 1) (-1))) := hi
    have ei : ((names.length : Int) + -1 * (j : Int)) = ((names.length - j : Nat) : Int) := by omega
    rw [ei] at ev
    have i1 : 1 ≤ names.length - j := by omega
    have i8 : names.length - j ≤ names.length := by omega
    have elo : names.length - (j + 1) = names.length - j - 1 := by omega
    generalize names.length - j = i at ev i1 i8 P elo
    refine wp_asgn (am_store 6 h₇ rfl fun s₈ h₈ => ?_)
    rw [ev] at h₈
    have h₈ : At fKeeps C ⟨k0 l most room tp ls lc (some (.int i)) y7, H'⟩ s₈ := h₈
    -- above
    refine wp_cons (wp_assign (wp_binop (am_local 6 h₈ rfl rfl fun v1 e1 => wp_binop (am_local 6 h₈ rfl rfl fun v2 e2 => wp_unop (am_local 6 h₈ rfl rfl fun v3 e3 => am_neg h₈ e3 fun v4 s₉ h₉ e4 => am_band h₉ e2 e4 fun v5 s₁₀ h₁₀ e5 => am_add h₁₀ e1 e5 fun v6 s₁₁ h₁₁ e6 => am_store 7 h₁₁ rfl fun s₁₂ h₁₂ => ?_)))))
    rw [low_and i i1 (by omega)] at e6
    have eab : ((i : Int) + (low i : Nat)) = ((i + low i : Nat) : Int) := by omega
    rw [eab] at e6
    rw [e6] at h₁₂
    have h₁₂ : At fKeeps C ⟨k0 l most room tp ls lc (some (.int i)) (some (.int ((i + low i : Nat) : Int))), H'⟩ s₁₂ := h₁₂
    have hcN' := known b hcN nofun
    have hcT' := known b hcT nofun
    have hnl' := known b hnl nofun
    -- the making of a counter
    have make : ∀ (fv : Value) s, er fv = .ref (upTo t tp names.length (i + low i)) → At fKeeps C ⟨k0 l most room tp ls lc (some (.int i)) (some (.int ((i + low i : Nat) : Int))), H'⟩ s → ∀ (Q : Value → Shared → Prop) E,
        (∀ x dx s', H' x = none → H' dx = none → x ≠ dx → At fKeeps C ⟨k0 l most room tp ls lc (some (.int i)) (some (.int ((i + low i : Nat) : Int))), hput (hput H' dx (.attrs tNames [.ref (upTo t tp names.length (i + low i)), .int 0])) x (.inst 85 dx)⟩ s' → Q (.ref x) s') → Wp C.w A (call (.ref 85) ([] ++ [fv])) Q E s := fun fv s ef g Q E q =>
      wp_call (tell_make (n := n) g (hr.cast (by omega)) fun x dx s' hx hdx ne g' => by
        rw [ef] at g'
        exact q x dx s' hx hdx ne g')
    -- behind it
    have tail : ∀ x dx s, H' x = none → H' dx = none → x ≠ dx → At fKeeps C ⟨k0 l most room tp ls lc (some (.int i)) (some (.int ((i + low i : Nat) : Int))), hput (hput H' dx (.attrs tNames [.ref (upTo t tp names.length (i + low i)), .int 0])) x (.inst 85 dx)⟩ s → ∀ p1 p2 (Q : Unit → Shared → Prop),
        (∀ s' , (∃ σ', (∃ t y6 y7 f nn H', σ' = ⟨k0 l most room tp ls lc y6 y7, H'⟩ ∧ But [td] H H' ∧ H' td = some (.imap f nn) ∧ nn ≤ j + 1 ∧ Pt H H' t tp td it names.length (names.length - (j + 1)) f) ∧ σ'.H it = some (.it (.range (names.length + -1 * (j : Int) + -1) (names.length - j - 1) (-1))) ∧ At fKeeps C σ' s') → Q () s') →
        Wp C.w A (eval (.Name "tree" p1) C.env) (fun ov s₂ => Wp C.w A (eval (.Name "i" p2) C.env) (fun iv s₃ => Wp C.w A (setItem ov iv (.ref x)) Q (fun _ _ => False) s₃) (fun _ _ => False) s₂) (fun _ _ => False) s := fun x dx s hx hdx ne g p1 p2 Q q => by
      have kp : Kp H' (hput (hput H' dx (.attrs tNames [.ref (upTo t tp names.length (i + low i)), .int 0])) x (.inst 85 dx)) := ((Kp.refl H').new hdx).upd hx
      have gx : hput (hput H' dx (.attrs tNames [.ref (upTo t tp names.length (i + low i)), .int 0])) x (.inst 85 dx) x = some (.inst 85 dx) := hput_self _ _ _
      have gd : hput (hput H' dx (.attrs tNames [.ref (upTo t tp names.length (i + low i)), .int 0])) x (.inst 85 dx) dx = some (.attrs tNames [.ref (upTo t tp names.length (i + low i)), .int 0]) := by rw [hput_ne ne.symm]; exact hput_self _ _ _
      generalize hput (hput H' dx (.attrs tNames [.ref (upTo t tp names.length (i + low i)), .int 0])) x (.inst 85 dx) = H3 at g kp gx gd
      have ht3 := kp _ _ ht
      refine am_cell 1 g rfl c1 (kp _ _ hcT') fun v e => ?_
      cases er_ref e
      refine am_local 6 g rfl rfl fun iv ei => am_setdict g ht3 (by omega) ei fun s₂ g₂ => q s₂ ⟨_, ⟨⟨fun q => if q = i then x else t.X q, fun q => if q = i then dx else t.D q⟩, _, _, _, _, _, rfl, ?_, hput_self _ _ _, by omega, ?_⟩, ?_, g₂⟩
      · exact But.put (fun a ao na e => kp _ _ (b a ao na e)) (.inl (by simp))
      · have xit : x ≠ it := fun z => by rw [z, hi] at hx; cases hx
        have dit : dx ≠ it := fun z => by rw [z, hi] at hdx; cases hdx
        have nH : ∀ {a}, H' a = none → H a = none := fun {a} e => b.no e fun c hc => by rw [List.mem_singleton.mp hc, ht]; nofun
        have kt : ∀ {a ao}, H3 a = some ao → (∀ f n, ao ≠ .imap f n) → ∀ o, hput H3 td o a = some ao := fun {a ao} e ne o => put_keep e (ne_of e ht3 (ne _ _))
        have up : ∀ q, q ≠ i → q ≥ 1 → ∀ q', q' = q + low q → i < q' → upTo ⟨fun q => if q = i then x else t.X q, fun q => if q = i then dx else t.D q⟩ tp names.length q' = upTo t tp names.length q' := fun q _ _ q' _ hlt => by
          unfold upTo
          dsimp only
          rw [if_neg (show q' ≠ i by omega)]
        refine ⟨fun q a c => ?_, fun q a c => ?_, fun q q' a c a' c' z => ?_, fun q a c => ?_, fun q a c => ?_⟩
        · dsimp only
          by_cases e : q = i
          · rw [if_pos e, if_pos e]; exact kt gx (fun _ _ => nofun) _
          · rw [if_neg e, if_neg e]; exact kt (kp _ _ (P.x q (by omega) c)) (fun _ _ => nofun) _
        · have lp := low_pos q
          by_cases e : q = i
          · subst e
            rw [show upTo ⟨fun q_1 => if q_1 = q then x else t.X q_1, fun q_1 => if q_1 = q then dx else t.D q_1⟩ tp names.length (q + low q) = upTo t tp names.length (q + low q) by unfold upTo; dsimp only; rw [if_neg (show q + low q ≠ q by omega)]]
            dsimp only
            rw [if_pos rfl]; exact kt gd (fun _ _ => nofun) _
          · rw [up q e (by omega) _ rfl (by omega)]
            dsimp only
            rw [if_neg e]; exact kt (kp _ _ (P.d q (by omega) c)) (fun _ _ => nofun) _
        · dsimp only at z
          by_cases e : q = i
          · by_cases e' : q' = i
            · rw [e, e']
            · rw [if_pos e, if_neg e'] at z
              have := P.d q' (by omega) c'
              rw [← z, hdx] at this; cases this
          · by_cases e' : q' = i
            · rw [if_neg e, if_pos e'] at z
              have := P.d q (by omega) c
              rw [z, hdx] at this; cases this
            · rw [if_neg e, if_neg e'] at z
              exact P.inj q q' (by omega) c (by omega) c' z
        · dsimp only
          by_cases e : q = i
          · rw [if_pos (by rw [e]), if_pos e]; rfl
          · rw [if_neg (by omega), if_neg e]; exact P.f q (by omega) c
        · dsimp only
          by_cases e : q = i
          · rw [if_pos e, if_pos e]; exact ⟨nH hx, nH hdx, xit, dit⟩
          · rw [if_neg e, if_neg e]; exact P.fr q (by omega) c
      · exact put_keep (kp _ _ hi) (Ne.symm tdit)
    refine wp_cons (wp_setsub (wp_callx (am_glob (v := .ref 85) 3 h₁₂ rfl (by kernel_rfl!) (wp_clsargs (by kernel_rfl!) (wp_sp (wp_ifexp (wp_tcmp (am_local 7 h₁₂ rfl rfl fun v1 e1 => wp_callx (am_bltn (v := .builtin "len") 2 h₁₂ rfl (by kernel_rfl!) (by kernel_rfl!) (by decide) (wp_bargs (wp_sp (am_cell 0 h₁₂ rfl c0 hcN' fun v e => ?_))))))))))))
    cases er_ref e
    refine wp_sp0 (am_len h₁₂ hnl' (by simp; omega) fun lv s₁₃ h₁₃ elv => am_le e1 elv (am_truthy_bool ?_))
    rw [List.length_map]
    by_cases hup : i + low i ≤ names.length
    · rw [if_pos (by simpa using (by omega : ((i + low i : Nat) : Int) ≤ (names.length : Nat)))]
      have eu : upTo t tp names.length (i + low i) = t.X (i + low i) := by unfold upTo; rw [if_pos hup]
      have lp := low_pos i
      refine wp_sub (am_cell 1 h₁₃ rfl c1 hcT' fun v e => ?_)
      cases er_ref e
      refine am_local 7 h₁₃ rfl rfl fun v2 e2 => am_getdict h₁₃ ht e2 (P.f (i + low i) (by omega) hup) fun xv s₁₄ h₁₄ ex => wp_sp0 ⟨h₁₄.K, make xv s₁₄ (by rw [eu]; exact ex) h₁₄ _ _ fun x dx s' hx hdx ne g => tail x dx s' hx hdx ne g _ _ _ fun s' z => wp_nil (by obtain ⟨σ', z1, z2, z3⟩ := z; exact tn _ _ z1 z2 z3)⟩
    · rw [if_neg (by simpa using (by omega : ¬ ((i + low i : Nat) : Int) ≤ (names.length : Nat)))]
      have eu : upTo t tp names.length (i + low i) = tp := by unfold upTo; rw [if_neg hup]
      refine am_local 3 h₁₃ rfl rfl fun xv ex => wp_sp0 ⟨h₁₃.K, make xv s₁₃ (by rw [eu]; exact ex) h₁₃ _ _ fun x dx s' hx hdx ne g => tail x dx s' hx hdx ne g _ _ _ fun s' z => wp_nil (by obtain ⟨σ', z1, z2, z3⟩ := z; exact tn _ _ z1 z2 z3)⟩
  · obtain ⟨t, y6, y7, f, nn, H', rfl, b, ht, hnn, P⟩ := hI
    rw [Nat.sub_self] at P
    refine k t H' s y6 y7 h₇ b ⟨f, nn, ht, fun i a c => P.f i (by omega) c⟩ ⟨fun i a c => P.x i (by omega) c, fun i a c => P.d i (by omega) c, fun i j a c a' c' => P.inj i j (by omega) c (by omega) c'⟩ fun a ha => ?_
    rcases List.mem_append.mp ha with ha | ha <;> obtain ⟨q, hq, rfl⟩ := List.mem_map.mp ha <;> rw [List.mem_range] at hq
    · exact (P.fr (q + 1) (by omega) (by omega)).1
    · exact (P.fr (q + 1) (by omega) (by omega)).2.1
end
end Mine

end
section
open PySem PySem.W PyProof.Rows PySem.Calls PyProof.Rows.LCg
set_option linter.unusedVariables false
namespace Mine
structure KE (H0 : Addr → Option AO) (K : KIds) (names : List (List Nat)) (most room : Int) (ms : MS) (calls : List (List Nat)) (ba : List Addr) (bxs : List AV) (H : Addr → Option AO) : Prop where
  tape : TapeAt H K.ti most room ms.signs calls ms.left
  tree : TreeAt H K.t K.ti.tp names.length ms.offs
  cN : H K.cN = some (.cell (some (.ref K.nl)))
  cT : H K.cT = some (.cell (some (.ref K.td)))
  nl : H K.nl = some (.list (names.map AV.str))
  td : ∃ f n, H K.td = some (.imap f n) ∧ ∀ k : Nat, 1 ≤ k → k ≤ names.length → f k = some (.ref (K.t.X k))
  bk : H K.bk = some (.list bxs)
  bks : BooksAt H bxs ms.books ba
  rf : H K.rf = some (.list (ms.refused.map AV.str))
  p140 : TabAt H 140
  p : ∀ a ∈ K.outer, H a ≠ none
  ap : ∀ g ∈ [ba, [K.rf], [K.bk], treeAddrs K.t names.length, [K.cN, K.cT, K.nl, K.td], K.outer], K.ti.lc ∉ g
  fr : H0 K.ti.lc = none
  but : But K.outer H0 H
section
variable {H0 H H' : Addr → Option AO} {K : KIds} {names : List (List Nat)} {page : List Nat} {most room : Int} {ms : MS} {ba : List Addr} {bxs : List AV} {calls calls' : List (List Nat)}
theorem KS.toE (S : KS H0 K names page most room ms ba bxs H) : KE H0 K names most room ms [] ba bxs H := by
  have lx := S.lex.known
  have nlc : ∀ i, i ≠ 5 → K.ti.lc ∉ (K.groups names.length ba).getD i [] := fun i hi => S.apart 5 i (a := K.ti.lc) (by first | trivial | simp [KIds.groups, tapeAddrs]) (Ne.symm hi)
  refine ⟨S.tape, S.tree, S.cN, S.cT, S.nl, S.td, S.bk, S.bks, S.rf, S.p140, fun a ha => ?_, fun g hg => ?_, S.fr (tapeAddrs K.ti) (by simp) _ (by first | trivial | simp [tapeAddrs]), S.but⟩
  · revert a ha
    exact allC (S.p140.ne) <| allC (lx _ (by first | trivial | simp [lexAddrs])) <| allC (lx _ (by first | trivial | simp [lexAddrs])) <| allC (lx _ (by first | trivial | simp [lexAddrs])) <| allN
  · revert g hg
    have n6 := nlc 6 (by decide)
    have n7 := nlc 7 (by decide)
    refine allC (nlc 0 (by decide)) <| allC (nlc 2 (by decide)) <| allC (nlc 3 (by decide)) <| allC (nlc 4 (by decide)) <| allC (fun z => n6 (List.mem_append_left [140] z)) <| allC (fun z => ?_) allN
    rcases List.mem_cons.mp z with z | z
    · exact n6 (z ▸ (memI 4 rfl : (140 : Addr) ∈ (K.groups names.length ba).getD 6 []))
    · revert z
      exact fun z => n7 ((List.forall_mem_cons.mpr ⟨memI 9 rfl, allC (memI 1 rfl) <| allC (memI 2 rfl) allN⟩ : ∀ q ∈ [K.l.i.pl, K.l.dx, K.l.pb], q ∈ (K.groups names.length ba).getD 7 []) _ z)
theorem KE.step (S : KE H0 K names most room ms calls ba bxs H) (b : But [K.ti.lc] H H') (T : TapeAt H' K.ti most room ms.signs calls' ms.left) : KE H0 K names most room ms calls' ba bxs H' := by
  have ag : ∀ g ∈ [ba, [K.rf], [K.bk], treeAddrs K.t names.length, [K.cN, K.cT, K.nl, K.td], K.outer], Ag g H H' := fun g hg => b.ag fun a ha hm => by
    rw [List.mem_singleton.mp hm] at ha
    exact S.ap g hg ha
  obtain ⟨f, n, td, tdf⟩ := S.td
  refine ⟨T, S.tree.agree (ag _ (by simp)), ag [K.cN, K.cT, K.nl, K.td] (by simp) _ (by simp) _ S.cN, ag [K.cN, K.cT, K.nl, K.td] (by simp) _ (by simp) _ S.cT, ag [K.cN, K.cT, K.nl, K.td] (by simp) _ (by simp) _ S.nl, ⟨f, n, ag [K.cN, K.cT, K.nl, K.td] (by simp) _ (by simp) _ td, tdf⟩, ag [K.bk] (by simp) _ (by simp) _ S.bk, S.bks.agree (ag ba (by simp)), ag [K.rf] (by simp) _ (by simp) _ S.rf, (let ⟨ps, e⟩ := S.p140; ⟨ps, ag K.outer (by simp) 140 (by first | trivial | simp [KIds.outer]) _ e⟩), fun a ha => ?_, S.ap, S.fr, fun a ao na e => b a ao (fun z => ?_) (S.but a ao na e)⟩
  · cases e : H a with
    | none => exact absurd e (S.p a ha)
    | some ao => rw [ag K.outer (by simp) a ha ao e]; nofun
  · rw [List.mem_singleton.mp z, S.fr] at e; cases e
theorem KE.kp (S : KE H0 K names most room ms calls ba bxs H) (k : Kp H H') : KE H0 K names most room ms calls ba bxs H' := by
  obtain ⟨f, n, td, tdf⟩ := S.td
  refine ⟨S.tape.agree (k.ag _), S.tree.agree (k.ag _), k _ _ S.cN, k _ _ S.cT, k _ _ S.nl, ⟨f, n, k _ _ td, tdf⟩, k _ _ S.bk, S.bks.agree (k.ag _), k _ _ S.rf, (let ⟨ps, e⟩ := S.p140; ⟨ps, k _ _ e⟩), fun a ha => ?_, S.ap, S.fr, fun a ao na e => k _ _ (S.but a ao na e)⟩
  cases e : H a with
  | none => exact absurd e (S.p a ha)
  | some ao => rw [k a ao e]; nofun
theorem KE.new0 (S : KE H0 K names most room ms calls ba bxs H) {D : Addr} (h : H D = none) : H0 D = none := S.but.no h S.p
end
section
variable {C : Cx} {s : Shared} {A : Around} {n : Nat} {fs : List Env} {H0 H : Addr → Option AO} {K : KIds} {names : List (List Nat)} {page : List Nat} {most room : Int} {ms : MS} {ba : List Addr} {bxs : List AV} {x6 x7 x10 x11 x12 x13 x14 x15 : Option AV} {E : Value → Shared → Prop} {Q : Flow → Shared → Prop} {name : List Nat}
theorem endrow_spec (h : At fKeeps C ⟨km K most room x6 x7 x10 x11 x12 x13 x14 x15, H⟩ s) (kf : KF C A K fs n) (S : KS H0 K names page most room ms ba bxs H) (hcn : H K.cn = some (.cell (some (.str name)))) (hn : names.length ≤ 8) (hn5 : 5 ≤ names.length) (hp : page.length ≤ 1000) (hpb : ms.pb = []) (hrest : ms.rest = [])
    (k : ∀ H' s' en, At fKeeps C ⟨km K most room x6 x7 x10 x11 x12 x13 x14 (some (.ref en)), H'⟩ s' → KE H0 K names most room ms [flushL, closeL] ba bxs H' → H' en = some (.list [.str name, .str [], .int (1 + (page.count 10 : Nat)), .none, .none]) → H0 en = none → (∀ H₁ o, (H₁ = hput H' en o) → KE H0 K names most room ms [flushL, closeL] ba bxs H₁) → Q .next s') :
    Wp C.w A (exec (nth bKeeps 5) C.env) Q E s := by
  refine wp_assign (wp_list (wp_sp (am_cell 2 h rfl kf.c2 hcn fun nv en => wp_sp (tokr (n := n) h (kf.hr.cast (by omega)) S rfl (by omega) (by rw [hpb]; simp) fun H1 s₁ tv et h₁ S1 b1 => wp_sp (wp_attr (am_local 0 h₁ rfl rfl fun v e => ?_))))))
  cases er_ref e
  rw [hpb, hrest] at et S1
  have S1 : KS H0 K names page most room { ms with rest := [], pb := [] } ba bxs H1 := S1
  have em : ({ ms with rest := [], pb := [] } : MS) = ms := by cases ms; simp only at hpb hrest; subst hpb hrest; rfl
  rw [em] at S1
  have et : er tv = .str [] := et
  obtain ⟨pre, epre, L⟩ := S1.lex
  rw [hrest, List.append_nil] at epre
  subst epre
  refine am_getattr 0 h₁ L.x L.dx rfl rfl (by kernel_rfl!) rfl fun lv s₂ h₂ el => ?_
  have S2 := S1.toE
  -- tree[1].flush()
  obtain ⟨f, fn, htd, hf⟩ := S2.td
  refine wp_sp (wp_mcall (wp_sub (am_cell 1 h₂ rfl kf.c1 S2.cT fun v e => ?_)))
  cases er_ref e
  refine am_cint h₂ fun iv s₃ h₃ ei => am_getdict h₃ htd ei (hf 1 (by omega) (by omega)) fun xv s₄ h₄ ex => ?_
  cases er_ref ex
  refine am_method (f := 75) h₄ (S2.tree.x 1 (by omega) (by omega)) (S2.tree.d 1 (by omega) (by omega)) (by decide) (by kernel_rfl!) (wp_fnargs0 (h₄.fnAt (by kernel_rfl!)) (wp_call ?_))
  refine flush_at (by simp) n names.length 1 (by omega) (by omega) (by omega) h₄ (kf.hr.cast (by omega)) S2.tape S2.tree fun s₅ H5 h₅ T5 b5 => ?_
  have S5 := S2.step b5 T5
  have h₅ : At fKeeps C ⟨km K most room x6 x7 x10 x11 x12 x13 x14 x15, H5⟩ s₅ := h₅
  -- tree[3].close()
  obtain ⟨f, fn, htd, hf⟩ := S5.td
  refine wp_sp (wp_mcall (wp_sub (am_cell 1 h₅ rfl kf.c1 S5.cT fun v e => ?_)))
  cases er_ref e
  refine am_cint h₅ fun iv s₆ h₆ ei => am_getdict h₆ htd ei (hf 3 (by omega) (by omega)) fun xv s₇ h₇ ex => ?_
  cases er_ref ex
  refine am_method (f := 82) h₇ (S5.tree.x 3 (by omega) (by omega)) (S5.tree.d 3 (by omega) (by omega)) (by decide) (by kernel_rfl!) (wp_fnargs0 (h₇.fnAt (by kernel_rfl!)) (wp_call ?_))
  refine close_at (by simp) n names.length 3 (by omega) (by omega) (by omega) h₇ (kf.hr.cast (by omega)) S5.tape S5.tree fun s₈ H8 h₈ T8 b8 => ?_
  have S8 := S5.step b8 T8
  have h₈ : At fKeeps C ⟨km K most room x6 x7 x10 x11 x12 x13 x14 x15, H8⟩ s₈ := h₈
  refine wp_sp0 (am_newlist h₈ (by simp) fun D s₉ hD h₉ => am_store 15 h₉ rfl fun s₁₀ h₁₀ => ?_)
  have hD : H8 D = none := hD
  refine k _ _ D h₁₀ (S8.kp ((Kp.refl H8).new hD)) ?_ (S8.new0 hD) fun H₁ o e => ?_
  · show hput _ _ _ _ = _
    rw [hput_self]
    show some (AO.list [er nv, er tv, er lv, .none, .none]) = _
    rw [en, et, el]
  · subst e
    refine S8.kp fun a ao e => put_keep (put_new e hD) fun z => ?_
    rw [z, hD] at e; cases e
theorem late_spec {en : Addr} {xs : List AV} (h : At fKeeps C ⟨km K most room x6 x7 x10 x11 x12 x13 x14 (some (.ref en)), H⟩ s) (kf : KF C A K fs n) (S : KE H0 K names most room ms [flushL, closeL] ba bxs H) (hen : H en = some (.list xs)) (hxs : xs.length ≤ 1000) (hn : names.length ≤ 8) (hn5 : 5 ≤ names.length) (B : MSfin ms) (hm : 0 ≤ most) (hm' : most ≤ 1000)
    (hput' : ∀ H₁ o, H₁ = hput H en o → KE H0 K names most room ms [flushL, closeL] ba bxs H₁)
    (k : ∀ H' s' x14', At fKeeps C ⟨km K most room x6 x7 x10 x11 x12 x13 x14' (some (.ref en)), H'⟩ s' → KE H0 K names most room ms [flushL, closeL] ba bxs H' → H' en = some (.list (xs ++ [.str (closedL ++ (Str.ofString "late").cps.toList)])) → Q .next s') :
    Wp C.w A (exec (nth bKeeps 6) C.env) Q E s := by
  refine am_try (F := fKeeps) (Cl := 24) 14 6 h.gnd rfl rfl (by kernel_rfl!) (by kernel_rfl!) kf.stk kf.fr ?_
  obtain ⟨f, fn, htd, hf⟩ := S.td
  refine wp_cons (wp_expr (wp_mcall (wp_sub (am_cell 1 h rfl kf.c1 S.cT fun v e => ?_))) h.notInt)
  cases er_ref e
  refine am_cint h fun iv s₃ h₃ ei => am_getdict h₃ htd ei (hf 5 (by omega) (by omega)) fun xv s₄ h₄ ex => ?_
  cases er_ref ex
  refine am_method (f := 61) h₄ (S.tree.x 5 (by omega) (by omega)) (S.tree.d 5 (by omega) (by omega)) (by decide) (by kernel_rfl!) (wp_fnargs (wp_sp (am_cstr h₄ fun tv s₅ h₅ et => wp_sp0 ⟨h₅.fnAt (by kernel_rfl!), wp_call ?_⟩)))
  refine write_at (n := n) hm hm' B.l0 B.l1 (by decide) (by have := B.sg; omega) names.length 5 (by omega) (by omega) (by omega) h₅ (kf.hr.cast (by omega)) S.tape S.tree et kf.stk (fun c1 => absurd c1 (by decide)) (fun c1 => absurd c1 (by decide)) fun c1 e v s' g ev fly => ?_
  refine ⟨e, _, [v], rfl, g, fly, fun t s₂ he ht net g₂ => ?_⟩
  have he : H e = none := he
  have ht : H t = none := ht
  have kp : Kp H (hput (hput H e (.exc 24 t)) t (.args [er v])) := ((Kp.refl H).new he).upd ht
  have x1 : hput (hput H e (.exc 24 t)) t (.args [er v]) e = some (.exc 24 t) := by rw [hput_ne net]; exact hput_self _ _ _
  have x2 : hput (hput H e (.exc 24 t)) t (.args [er v]) t = some (.args [.str (closedL ++ (Str.ofString "late").cps.toList)]) := by rw [hput_self, ev]
  have g₂ : At fKeeps C ⟨km K most room x6 x7 x10 x11 x12 x13 (some (.ref e)) (some (.ref en)), hput (hput H e (.exc 24 t)) t (.args [er v])⟩ s₂ := g₂
  have SS : ∀ H₁ o, H₁ = hput (hput (hput H e (.exc 24 t)) t (.args [er v])) en o → KE H0 K names most room ms [flushL, closeL] ba bxs H₁ := fun H₁ o q => by
    subst q
    refine (hput' _ o rfl).kp fun a ao q => ?_
    by_cases z : a = en
    · subst z
      rw [hput_self] at q ⊢; exact q
    · rw [hput_ne z] at q ⊢
      exact kp a ao q
  have hen2 := kp _ _ hen
  generalize hput (hput H e (.exc 24 t)) t (.args [er v]) = H2 at kp SS x1 x2 g₂ hen2
  refine wp_cons (wp_expr (wp_mcall (am_local 15 g₂ rfl rfl fun v e => ?_)) g₂.notInt)
  cases er_ref e
  refine am_mappend g₂ hen2 (wp_bargs (wp_sp (wp_callx (am_bltn (v := .type "str") 5 g₂ rfl (by kernel_rfl!) (by kernel_rfl!) (by decide) (wp_targs (wp_sp (am_local 14 g₂ rfl rfl fun v e => ?_)))))))
  cases er_ref e
  refine wp_sp0 (am_strexc (n := n) g₂ x1 x2 (by kernel_rfl!) (by kernel_rfl!) (by have := kf.hr.units; show A.units + _ < _; omega) fun sv esv => wp_sp0 (am_append g₂ hen2 (by omega) fun s₃ g₃ => wp_nil ⟨_, g₃, fun s₄ g₄ => ?_⟩))
  rw [esv] at g₄
  exact k _ s₄ none g₄ (SS _ _ rfl) (hput_self _ _ _)
end
end Mine

end
section
open PySem PySem.W PyProof.Rows PySem.Calls PyProof.Rows.LCg
set_option linter.unusedVariables false
namespace Mine
section
variable {C : Cx} {s : Shared} {A : Around} {n : Nat} {fs : List Env} {H0 H : Addr → Option AO} {K : KIds} {names : List (List Nat)} {page : List Nat} {most room : Int} {ms : MS} {ba : List Addr} {bxs : List AV} {x6 x7 x10 x11 x12 x13 x14 x15 : Option AV} {E : Value → Shared → Prop} {Q : Flow → Shared → Prop}
theorem retrow_spec {en : Addr} {xs : List AV} (h : At fKeeps C ⟨km K most room x6 x7 x10 x11 x12 x13 x14 (some (.ref en)), H⟩ s) (kf : KF C A K fs n) (S : KE H0 K names most room ms [flushL, closeL] ba bxs H) (hen : H en = some (.list xs)) (hxs : xs.length ≤ 1000) (hn : names.length ≤ 8) (B : MSfin ms)
    (k : ∀ H' s' tu el la, At fKeeps C ⟨km K most room x6 x7 x10 x11 x12 x13 x14 (some (.ref en)), H'⟩ s' → KE H0 K names most room ms [flushL, closeL] ba bxs H' → H' tu = some (.tuple [.ref K.bk, .ref K.rf, .ref el, .str ms.signs.flatten, .ref la]) → H' el = some (.list (xs ++ [.str flushL, .str closeL])) → H' la = some (.list ((told ms.offs names.length).map AV.int)) → Q (.ret (.ref tu)) s') :
    Wp C.w A (exec (nth bKeeps 7) C.env) Q E s := by
  refine wp_ret (wp_tuple (wp_sp (am_local 8 h rfl rfl fun v1 e1 => wp_sp (am_local 9 h rfl rfl fun v2 e2 => wp_sp (wp_binop (am_local 15 h rfl rfl fun v3 e3 => am_local 5 h rfl rfl fun v4 e4 => ?_))))))
  cases er_ref e1
  cases er_ref e2
  cases er_ref e3
  cases er_ref e4
  refine am_ladd h hen S.tape.lc (by simp; omega) fun el s₁ hel h₁ => ?_
  have hel : H el = none := hel
  have kp1 := (Kp.refl H).new (o := .list (xs ++ [flushL, closeL].map AV.str)) hel
  have g1 : hput H el (.list (xs ++ [flushL, closeL].map AV.str)) el = some (.list (xs ++ [.str flushL, .str closeL])) := hput_self _ _ _
  have h₁ : At fKeeps C ⟨km K most room x6 x7 x10 x11 x12 x13 x14 (some (.ref en)), hput H el (.list (xs ++ [flushL, closeL].map AV.str))⟩ s₁ := h₁
  generalize hput H el (.list (xs ++ [flushL, closeL].map AV.str)) = H1 at h₁ kp1 g1
  have S1 := S.kp kp1
  refine wp_sp (wp_mcall (am_cstr h₁ fun jv s₂ h₂ ej => am_mjoin (wp_bargs (wp_sp (am_local 4 h₂ rfl rfl fun v e => ?_))) ej))
  cases er_ref e
  refine wp_sp0 (am_join h₂ S1.tape.ls ej (by have := B.fl; omega) fun jv2 s₃ h₃ e₃ => ?_)
  refine wp_sp (am_lcomp (F' := fTells) ["tree"] [K.cT] h₃.env (by kernel_rfl!) (.cons 1 rfl kf.c1 .nil) (wp_callx (am_bltn (v := .type "range") 1 h₃ rfl (by kernel_rfl!) (by kernel_rfl!) (by decide) (wp_targs (wp_sp (wp_callx (am_bltn (v := .builtin "len") 2 h₃ rfl (by kernel_rfl!) (by kernel_rfl!) (by decide) (wp_bargs (wp_sp (am_cell 0 h₃ rfl kf.c0 S1.cN fun v e => ?_))))))))))
  cases er_ref e
  refine wp_sp0 (am_len h₃ S1.nl (by simp; omega) fun lv s₄ h₄ e₄ => wp_sp0 (am_range1 h₄ e₄ fun Dr s₅ t u w hDr h₅ => am_iter_range h₅ (hput_self _ _ _) (small_of (by omega) (by omega) (by rw [List.length_map]; omega) (by rw [List.length_map]; omega) (.inl rfl)) fun it s₆ hit h₆ => ?_))
  have hDr : H1 Dr = none := hDr
  have kpr : Kp H1 (hput H1 Dr (.raw (rngObj 0 ((names.map AV.str).length : Nat) 1 t u w))) := (Kp.refl H1).new hDr
  have it0 : H1 it = none := kpr.no hit
  have kp2 := kpr.new (o := .it (.range 0 (Builtin.Range.rangeSize 0 ((names.map AV.str).length : Nat) 1) 1)) hit
  have h₆ : At fKeeps C ⟨km K most room x6 x7 x10 x11 x12 x13 x14 (some (.ref en)), hput (hput H1 Dr (.raw (rngObj 0 ((names.map AV.str).length : Nat) 1 t u w))) it (.it (.range 0 (Builtin.Range.rangeSize 0 ((names.map AV.str).length : Nat) 1) 1))⟩ s₆ := h₆
  have hi2 : hput (hput H1 Dr (.raw (rngObj 0 ((names.map AV.str).length : Nat) 1 t u w))) it (.it (.range 0 (Builtin.Range.rangeSize 0 ((names.map AV.str).length : Nat) 1) 1)) it = some (.it (.range 0 (Builtin.Range.rangeSize 0 ((names.map AV.str).length : Nat) 1) 1)) := hput_self _ _ _
  generalize hput (hput H1 Dr (.raw (rngObj 0 ((names.map AV.str).length : Nat) 1 t u w))) it (.it (.range 0 (Builtin.Range.rangeSize 0 ((names.map AV.str).length : Nat) 1) 1)) = H2 at h₆ hi2 kp2
  have S2 := S1.kp kp2
  rw [List.length_map] at hi2
  refine tells_run (n := n) h₆ (kf.hr.cast (by omega)) hi2 (by omega) S2.tree S2.cT S2.td (by kernel_rfl!) fun D H3 b hD hd s₇ h₇ => ?_
  have hD2 : H2 D = none := hD
  have kp3 : Kp H1 H3 := fun a ao e => b a ao (fun z => by rw [List.mem_singleton.mp z, it0] at e; cases e) (kp2 a ao e)
  have S3 := S1.kp kp3
  refine wp_sp0 (am_newtuple h₇ (by simp) fun tu s₈ hA h₈ => ?_)
  have hA3 : H3 tu = none := hA
  rw [show List.map er [Value.ref K.bk, Value.ref K.rf, Value.ref el, jv2, Value.ref D] = [.ref K.bk, .ref K.rf, .ref el, er jv2, .ref D] from rfl, e₃] at h₈
  exact k _ _ tu el D h₈ (S3.kp ((Kp.refl H3).new hA3)) (hput_self _ _ _) (put_new (kp3 _ _ g1) hA3) (put_new hd hA3)
end
theorem kKeeps (w : World) : FnC fKeeps (fdK w 157) := ⟨by kernel_rfl!, by kernel_rfl!, by kernel_rfl!, by kernel_rfl!, by kernel_rfl!⟩
noncomputable def ms0 (page : List Nat) (room : Int) : MS := ⟨page, [], room, [], fun _ => 0, [], []⟩
section
variable {F : FnS} {C : Cx} {σ : St} {s : Shared} {A : Around} {R : Result → Shared → Prop} {n : Nat} {fs : List Env}
theorem keeps_spec {lv nv mv rv : Value} {l : LexIds} {nl : Addr} {names : List (List Nat)} {page : List Nat} {most room : Int} {name : List Nat} {msf : MS} (h : At F C σ s) (hr : Rm A (n + 24)) (stk : Stk A C fs)
    (el : er lv = .ref l.x) (en : er nv = .ref nl) (em : er mv = .int most) (ero : er rv = .int room) (L : LexR σ.H l page page []) (hnl : σ.H nl = some (.list (names.map AV.str))) (hP : σ.H 140 = some (.raw (tabObj #[]))) (apn : nl ∉ lexAddrs l) (ap140 : 140 ∉ lexAddrs l)
    (hn : names.length ≤ 8) (hn5 : 5 ≤ names.length) (hp : page.length ≤ 1000) (hm : 0 ≤ most) (hm' : most ≤ 1000) (hro : 0 ≤ room) (hro' : room ≤ 1000) (hrun : runM names most room 60 (ms0 page room) = some (name, msf)) (hpb : msf.pb = []) (hrest : msf.rest = [])
    (k : ∀ s' H' tu bk rf e la bxs ba, At F C ⟨σ.m, H'⟩ s' → H' tu = some (.tuple [.ref bk, .ref rf, .ref e, .str msf.signs.flatten, .ref la]) → H' bk = some (.list bxs) → BooksAt H' bxs msf.books ba → H' rf = some (.list (msf.refused.map AV.str)) →
      H' e = some (.list [.str name, .str [], .int (1 + (page.count 10 : Nat)), .none, .none, .str (closedL ++ (Str.ofString "late").cps.toList), .str flushL, .str closeL]) → H' la = some (.list ((told msf.offs names.length).map AV.int)) →
      But [140, l.i.pl, l.dx, l.pb] σ.H H' → TabAt H' 140 → R (.ok (.ret (.ref tu))) s') :
    Cd C.w A (.call (.ref 157) ⟨[lv, nv, mv, rv], []⟩) R s := by
  refine am_callE (fd := fdK C.w 157) (fo := obK C.w 157) (binds := [("lexer", lv), ("names", nv), ("most", mv), ("room", rv)]) (body := bKeeps) h (h.K _ _ (by kernel_rfl!)) (by kernel_rfl!) (kKeeps _) (codeRec_of h.K (by kernel_rfl!)) (by kernel_rfl!) hr.dp [] (fun i x c hx _ => by simp [fKeeps] at hx) (by kernel_rfl!) fun C' s₁ hE hfa hca he h₁ E' => ?_
  have hnc : (cvs (fdK C.w 157).scope.names).length = 3 := by kernel_rfl!
  rw [hnc] at hca h₁
  have hfr : C'.env.frame = some C'.L := by rw [he]; rfl
  have stk' := hE.stk hfr fs stk
  have hr' : Rm (A.deeper C'.env) (n + 23) := hr.deeper
  cases er_ref el
  cases er_ref en
  obtain ⟨tm, rfl⟩ := er_int em
  obtain ⟨tr, rfl⟩ := er_int ero
  -- the cells
  have cells : ∃ cN cT cn H, C'.ca = [cN, cT, cn] ∧ At fKeeps C' ⟨List.replicate 16 none, H⟩ s₁ ∧ Lg σ.H [140] H [(cN, .cell none), (cT, .cell none), (cn, .cell none), (140, .raw (tabObj #[]))] ∧ Kp σ.H H := by
    refine ⟨C'.L + 1 + 0, C'.L + 1 + 1, C'.L + 1 + 2, _, hca, h₁, ?_, (Kp.refl σ.H).cells hE.fresh⟩
    have fr : ∀ i, σ.H (C'.L + 1 + i) = none := fun i => hE.fresh _ (Nat.le_trans (Nat.le_succ _) (Nat.le_add_right _ _))
    have ci : ∀ i, i < 3 → hcells σ.H C'.L 3 (C'.L + 1 + i) = some (.cell none) := fun i hi => hcells_at hi
    have kp : Kp σ.H (hcells σ.H C'.L 3) := (Kp.refl σ.H).cells hE.fresh
    have ne : ∀ i j : Nat, i ≠ j → C'.L + 1 + i ≠ C'.L + 1 + j := fun i j n z => n (Nat.add_left_cancel z)
    have n140 : ∀ i, C'.L + 1 + i ≠ 140 := fun i z => by rw [← z, fr] at hP; cases hP
    refine ⟨?_, fun p hp => ?_, fun p hp => ?_, fun a ha => ?_, kp.but _⟩
    · simp only [List.map_cons, List.map_nil, List.nodup_cons, List.mem_cons, List.not_mem_nil, or_false, not_or, not_false_eq_true, List.nodup_nil, and_true]
      exact ⟨⟨ne _ _ (by decide), ne _ _ (by decide), n140 _⟩, ⟨ne _ _ (by decide), n140 _⟩, n140 _⟩
    · revert p hp
      exact allC (ci 0 (by decide)) <| allC (ci 1 (by decide)) <| allC (ci 2 (by decide)) <| allC (kp _ _ hP) <| allN
    · revert p hp
      exact allC (.inr (fr 0)) <| allC (.inr (fr 1)) <| allC (.inr (fr 2)) <| allC (.inl (by simp)) <| allN
    · rw [List.mem_singleton.mp ha, kp _ _ hP]; nofun
  obtain ⟨cN, cT, cn, H, hca, h₁, G, kpc⟩ := cells
  have c0 : C'.ca[0]? = some cN := by rw [hca]; rfl
  have c1 : C'.ca[1]? = some cT := by rw [hca]; rfl
  have c2 : C'.ca[2]? = some cn := by rw [hca]; rfl
  refine wp_bind1 (am_store 0 h₁ rfl fun s₂ h₂ => wp_bind1 (am_storecell 0 h₂ rfl c0 (G.get 0 rfl) fun s₃ h₃ => wp_bind1 (am_store 1 h₃ rfl fun s₄ h₄ => wp_bind1 (am_store 2 h₄ rfl fun s₅ h₅ => wp_bind0 ⟨_, h₅, ?_⟩))))
  have G := G.set 0 (o' := .cell (some (.ref nl))) rfl
  have cN0 := G.fresh0 0 rfl (by rw [List.mem_singleton]; exact G.ne 0 3 rfl rfl (by decide))
  have cT0 := G.fresh0 1 rfl (by rw [List.mem_singleton]; exact G.ne 1 3 rfl rfl (by decide))
  have cn0 := G.fresh0 2 rfl (by rw [List.mem_singleton]; exact G.ne 2 3 rfl rfl (by decide))
  have kp5 : Kp σ.H (hput H cN (.cell (some (.ref nl)))) := kpc.upd cN0
  have h₅ : At fKeeps C' ⟨[some (.ref l.x), some (.int most), some (.int room), none, none, none, none, none, none, none, none, none, none, none, none, none], hput H cN (.cell (some (.ref nl)))⟩ s₅ := h₅
  generalize hput H cN (.cell (some (.ref nl))) = H5 at h₅ G kp5
  have nlfx : ∀ {a}, σ.H a = none → a ∉ lexAddrs l := fun {a} e z => L.known a z e
  -- the tape
  refine wp_cons (wp_atup (wp_callx (am_glob (v := .ref 145) 0 h₅ rfl (by kernel_rfl!) (wp_fnargs (wp_sp (am_local 1 h₅ rfl rfl fun mv' em' => wp_sp (am_local 2 h₅ rfl rfl fun rv' er' => wp_sp0 ⟨h₅.fnAt (by kernel_rfl!), wp_call ?_⟩)))))))
  refine lawtape_spec (n := n + 21) h₅ hr' em' er' (G.get 3 rfl) fun s₆ H6 ti tu h₆ T6 htu b6 p6 frt => ?_
  have keep6 : ∀ {a ao}, H5 a = some ao → a ≠ 140 → H6 a = some ao := fun {a ao} e ne => b6 a ao (fun z => ne (List.mem_singleton.mp z)) e
  have hcN6 := keep6 (G.get 0 rfl) (G.ne 0 3 rfl rfl (by decide))
  have hcT6 := keep6 (G.get 1 rfl) (G.ne 1 3 rfl rfl (by decide))
  have hcn6 := keep6 (G.get 2 rfl) (G.ne 2 3 rfl rfl (by decide))
  have hnl6 := keep6 (kp5 _ _ hnl) (fun z => by rw [z] at hnl; rw [hnl] at hP; cases hP)
  have L6 := (L.agree (kp5.ag _)).agree (b6.ag fun a ha z => by rw [List.mem_singleton.mp z] at ha; exact ap140 ha)
  have b06 : But [140] σ.H H6 := fun a ao na e => b6 a ao na (kp5 a ao e)
  have h₆ : At fKeeps C' ⟨[some (.ref l.x), some (.int most), some (.int room), none, none, none, none, none, none, none, none, none, none, none, none, none], H6⟩ s₆ := h₆
  refine am_untuple h₆ hr'.hand htu rfl rfl fun vs s₇ evs h₇ => ?_
  obtain ⟨v1, v2, v3, rfl, ev1, ev2, ev3⟩ := ers3 evs
  cases er_ref ev1
  cases er_ref ev2
  cases er_ref ev3
  refine wp_ino (wp_asgn (am_store 3 h₇ rfl fun s₈ h₈ => wp_ino (wp_asgn (am_store 4 h₈ rfl fun s₉ h₉ => wp_ino (wp_asgn (am_store 5 h₉ rfl fun s₁₀ h₁₀ => wp_ino0 ?_))))))
  -- tree = {}
  refine wp_cons (wp_assign (am_dict0 h₁₀ fun td s₁₁ htd0 h₁₁ => ?_))
  have htd0 : H6 td = none := htd0
  have hcT7 := put_new (o := .imap (fun _ => none) 0) hcT6 htd0
  refine am_storecell 1 h₁₁ rfl c1 hcT7 fun s₁₂ h₁₂ => ?_
  have ncT : cT ≠ cN := G.ne 1 0 rfl rfl (by decide)
  have ncn : cn ≠ cT := G.ne 2 1 rfl rfl (by decide)
  have h8a : Kp H6 (hput H6 td (.imap (fun _ => none) 0)) := (Kp.refl H6).new htd0
  have keep8 : ∀ {a ao}, H6 a = some ao → a ≠ cT → hput (hput H6 td (.imap (fun _ => none) 0)) cT (.cell (some (.ref td))) a = some ao := fun {a ao} e ne => put_keep (h8a a ao e) ne
  have htd8 : hput (hput H6 td (.imap (fun _ => none) 0)) cT (.cell (some (.ref td))) td = some (.imap (fun _ => none) 0) := put_keep (hput_self _ _ _) (fun z => by rw [z, hcT6] at htd0; cases htd0)
  have hcT8 : hput (hput H6 td (.imap (fun _ => none) 0)) cT (.cell (some (.ref td))) cT = some (.cell (some (.ref td))) := hput_self _ _ _
  have b08 : But [140] σ.H (hput (hput H6 td (.imap (fun _ => none) 0)) cT (.cell (some (.ref td)))) := (b06.put (.inr (b06.no htd0 fun a ha => by rw [List.mem_singleton.mp ha]; exact p6.ne))).put (.inr cT0)
  have td0 : σ.H td = none := b06.no htd0 fun a ha => by rw [List.mem_singleton.mp ha]; exact p6.ne
  have h₁₂ : At fKeeps C' ⟨k0 l most room ti.tp ti.ls ti.lc none none, hput (hput H6 td (.imap (fun _ => none) 0)) cT (.cell (some (.ref td)))⟩ s₁₂ := h₁₂
  have ncTt : ∀ a ∈ tapeAddrs ti, a ≠ cT := fun a ha z => by
    have := frt a ha
    rw [z, show (_ : St).H cT = _ from G.get 1 rfl] at this; cases this
  have T8 := T6.agree (H' := hput (hput H6 td (.imap (fun _ => none) 0)) cT (.cell (some (.ref td)))) fun a ha ao e => keep8 e (ncTt a ha)
  have L8 := L6.agree (H' := hput (hput H6 td (.imap (fun _ => none) 0)) cT (.cell (some (.ref td)))) fun a ha ao e => keep8 e fun z => nlfx cT0 (z ▸ ha)
  have hcN8 := keep8 hcN6 ncT.symm
  have hcn8 := keep8 hcn6 ncn
  have hnl8 := keep8 hnl6 (fun z => by rw [z, cT0] at hnl; cases hnl)
  have p8 : TabAt (hput (hput H6 td (.imap (fun _ => none) 0)) cT (.cell (some (.ref td)))) 140 := by
    obtain ⟨ps, e⟩ := p6
    exact ⟨ps, keep8 e (G.ne 1 3 rfl rfl (by decide)).symm⟩
  have tdt : ∀ a ∈ tapeAddrs ti, a ≠ td := fun a ha z => T6.known a ha (z ▸ htd0)
  generalize hput (hput H6 td (.imap (fun _ => none) 0)) cT (.cell (some (.ref td))) = H8 at h₁₂ keep8 htd8 hcT8 b08 T8 L8 hcN8 hcn8 hnl8 p8
  -- the tree
  refine wp_cons (build_spec (n := n + 18) h₁₂ hr' c0 c1 hcN8 hnl8 hcT8 htd8 hn fun t H9 s₁₃ y6 y7 h₁₃ b9 htd9 U9 frT => ?_)
  have keep9 : ∀ {a ao}, H8 a = some ao → ao ≠ .imap (fun _ => none) 0 → H9 a = some ao := fun {a ao} e ne => b9 a ao (fun z => ne_of e htd8 ne (List.mem_singleton.mp z)) e
  have ag9 : ∀ g : List Addr, td ∉ g → Ag g H8 H9 := fun g ng => b9.ag fun a ha z => ng (List.mem_singleton.mp z ▸ ha)
  have T9 := T8.agree (ag9 _ fun z => tdt td z rfl)
  have L9 := L8.agree (ag9 _ (nlfx td0))
  have hcN9 := keep9 hcN8 nofun
  have hcT9 := keep9 hcT8 nofun
  have hcn9 := keep9 hcn8 nofun
  have hnl9 := keep9 hnl8 nofun
  have p9 : TabAt H9 140 := by
    obtain ⟨ps, e⟩ := p8
    exact ⟨ps, keep9 e nofun⟩
  have b09 : But [140] σ.H H9 := fun a ao na e => b9 a ao (fun z => by rw [List.mem_singleton.mp z, td0] at e; cases e) (b08 a ao na e)
  have P9 : ∀ a ∈ [140], H9 a ≠ none := fun a ha => by rw [List.mem_singleton.mp ha]; exact p9.ne
  -- books, refused = [], []
  have sw : swappedStores [.Tuple [.Name "books" ⟨111, 4, 111, 9⟩, .Name "refused" ⟨111, 11, 111, 18⟩] 0 ⟨111, 4, 111, 18⟩] (.Tuple [.List [] ⟨111, 22, 111, 24⟩, .List [] ⟨111, 26, 111, 28⟩] 0 ⟨111, 21, 111, 29⟩) C'.env = pure (some [("books" : Str), "refused"]) := by rw [he]; kernel_rfl!
  refine wp_cons (wp_atupS (wp_tuple (wp_sp (wp_list (wp_sp0 (am_newlist h₁₃ (Nat.zero_le _) fun bk s₁₄ hbk h₁₄ => ?_))))) rfl sw)
  have hbk : H9 bk = none := hbk
  refine wp_sp (wp_list (wp_sp0 (am_newlist h₁₄ (Nat.zero_le _) fun rf s₁₅ hrf h₁₅ => wp_sp0 (am_newtuple h₁₅ (by simp) fun tu2 s₁₆ htu2 h₁₆ => am_unpack h₁₆ hr'.hand (hput_self _ _ _) rfl fun vs s₁₇ evs h₁₇ => ?_))))
  have hrf : hput H9 bk (.list []) rf = none := hrf
  have htu2 : hput (hput H9 bk (.list [])) rf (.list []) tu2 = none := htu2
  obtain ⟨v1, v2, rfl, ev1, ev2⟩ := ers2 evs
  cases er_ref ev1
  cases er_ref ev2
  refine wp_ino (wp_bindname (am_store 9 h₁₇ rfl fun s₁₈ h₁₈ => wp_ino (wp_bindname (am_store 8 h₁₈ rfl fun s₁₉ h₁₉ => wp_ino0 ?_))))
  have kp10 : Kp H9 (hput (hput (hput H9 bk (.list [])) rf (.list [])) tu2 (.tuple [.ref bk, .ref rf])) := (((Kp.refl H9).new hbk).new hrf).new htu2
  have gbk : hput (hput (hput H9 bk (.list [])) rf (.list [])) tu2 (.tuple [.ref bk, .ref rf]) bk = some (.list []) := put_new (put_new (hput_self _ _ _) hrf) htu2
  have grf : hput (hput (hput H9 bk (.list [])) rf (.list [])) tu2 (.tuple [.ref bk, .ref rf]) rf = some (.list []) := put_new (hput_self _ _ _) htu2
  have nrb : rf ≠ bk := fun z => by rw [z, hput_self] at hrf; cases hrf
  have hrf9 : H9 rf = none := ((Kp.refl H9).new hbk).no hrf
  have h₁₉ : At fKeeps C' ⟨[some (.ref l.x), some (.int most), some (.int room), some (.ref ti.tp), some (.ref ti.ls), some (.ref ti.lc), y6, y7, some (.ref bk), some (.ref rf), none, none, none, none, none, none], hput (hput (hput H9 bk (.list [])) rf (.list [])) tu2 (.tuple [.ref bk, .ref rf])⟩ s₁₉ := h₁₉
  generalize hput (hput (hput H9 bk (.list [])) rf (.list [])) tu2 (.tuple [.ref bk, .ref rf]) = H10 at h₁₉ kp10 gbk grf
  have T10 := T9.agree (kp10.ag _)
  have L10 := L9.agree (kp10.ag _)
  have U10 := U9.agree (kp10.ag _)
  have p5n : H5 140 ≠ none := by rw [G.get 3 rfl]; nofun
  have hnl5 := kp5 _ _ hnl
  have tp0 : ∀ a ∈ tapeAddrs ti, σ.H a = none := fun a ha => kp5.no (frt a ha)
  have tr0 : ∀ a ∈ treeAddrs t names.length, σ.H a = none := fun a ha => b08.no (frT a ha) fun c hc => by rw [List.mem_singleton.mp hc]; exact p8.ne
  have bk0 : σ.H bk = none := b09.no hbk P9
  have rf0 : σ.H rf = none := b09.no hrf9 P9
  have kn : ∀ {Hx : Addr → Option AO} {x : Addr}, Hx x = none → Hx cN ≠ none → Hx cT ≠ none → Hx nl ≠ none → Hx td ≠ none → Hx 140 ≠ none → x ∉ [cN, cT, nl, td, (140 : Addr)] := fun {Hx x} e q1 q2 q3 q4 q5 z => by
    simp only [List.mem_cons, List.not_mem_nil, or_false] at z
    rcases z with z | z | z | z | z <;> rw [z] at e <;> contradiction
  have kn8 : ∀ {x : Addr}, H8 x = none → x ∉ [cN, cT, nl, td, (140 : Addr)] := fun e => kn e (by rw [hcN8]; nofun) (by rw [hcT8]; nofun) (by rw [hnl8]; nofun) (by rw [htd8]; nofun) p8.ne
  have kn9 : ∀ {x : Addr}, H9 x = none → x ∉ [cN, cT, nl, td, (140 : Addr)] := fun e => kn e (by rw [hcN9]; nofun) (by rw [hcT9]; nofun) (by rw [hnl9]; nofun) (by obtain ⟨_, _, q, _⟩ := htd9; rw [q]; nofun) p9.ne
  have aps : Aps [([] : List Addr), [cn], [rf], [bk], treeAddrs t names.length, tapeAddrs ti, [cN, cT, nl, td, 140], lexAddrs l] := by
    refine Aps.cons (Aps.cons (Aps.cons (Aps.cons (Aps.cons (Aps.cons (Aps.cons (Aps.cons Aps.nil ?_) ?_) ?_) ?_) ?_) ?_) ?_) ?_
    · intro x _ g hg; simp at hg
    · intro x hx g hg
      rw [List.mem_singleton.mp hg]
      revert x hx
      exact allC (nlfx cN0) <| allC (nlfx cT0) <| allC apn <| allC (nlfx td0) <| allC ap140 allN
    · intro x hx g hg
      simp only [List.mem_cons, List.not_mem_nil, or_false] at hg
      have fx := frt x hx
      rcases hg with e | e <;> rw [e]
      · intro z
        simp only [List.mem_cons, List.not_mem_nil, or_false] at z
        rcases z with z | z | z | z | z
        · rw [z, show (_ : St).H cN = _ from G.get 0 rfl] at fx; cases fx
        · rw [z, show (_ : St).H cT = _ from G.get 1 rfl] at fx; cases fx
        · rw [z, show (_ : St).H nl = _ from hnl5] at fx; cases fx
        · exact tdt x hx z
        · rw [z] at fx; exact p5n fx
      · exact fun z => nlfx (tp0 x hx) z
    · intro x hx g hg
      simp only [List.mem_cons, List.not_mem_nil, or_false] at hg
      have fx := frT x hx
      rcases hg with e | e | e
      · rw [e]; exact fun z => T8.known x z fx
      · rw [e]; exact kn8 fx
      · rw [e]; exact fun z => L8.known x z fx
    · intro x hx g hg
      rw [List.mem_singleton.mp hx]
      revert g hg
      exact allC (fun z => U9.known _ z hbk) <| allC (fun z => T9.known _ z hbk) <| allC (kn9 hbk) <| allC (fun z => L9.known _ z hbk) <| allN
    · intro x hx g hg
      rw [List.mem_singleton.mp hx]
      revert g hg
      exact allC (fun z => nrb (List.mem_singleton.mp z)) <| allC (fun z => U9.known _ z hrf9) <| allC (fun z => T9.known _ z hrf9) <| allC (kn9 hrf9) <| allC (fun z => L9.known _ z hrf9) <| allN
    · intro x hx g hg
      rw [List.mem_singleton.mp hx]
      simp only [List.mem_cons, List.not_mem_nil, or_false] at hg
      rcases hg with e | e | e | e | e | e <;> rw [e]
      · exact fun z => by rw [← List.mem_singleton.mp z, hcn9] at hrf9; cases hrf9
      · exact fun z => by rw [← List.mem_singleton.mp z, hcn9] at hbk; cases hbk
      · exact fun z => by have := frT _ z; rw [hcn8] at this; cases this
      · exact fun z => by have := frt _ z; rw [show (_ : St).H cn = _ from G.get 2 rfl] at this; cases this
      · intro z
        simp only [List.mem_cons, List.not_mem_nil, or_false] at z
        rcases z with z | z | z | z | z
        · exact G.ne 2 0 rfl rfl (by decide) z
        · exact ncn z
        · rw [← z, cn0] at hnl; cases hnl
        · rw [← z, hcn6] at htd0; cases htd0
        · exact G.ne 2 3 rfl rfl (by decide) z
      · exact nlfx cn0
    · intro x hx; cases hx
  have S : KS σ.H ⟨l, ti, t, cN, cT, cn, nl, td, bk, rf⟩ names page most room (ms0 page room) [] [] H10 := by
    refine ⟨L10, T10, U10, kp10 _ _ hcN9, kp10 _ _ hcT9, kp10 _ _ hnl9, ?_, ?_, gbk, ⟨rfl, fun i n td e => by simp [ms0] at e⟩, fun a ha => (by cases ha), grf, ⟨_, kp10 _ _ hcn9⟩, aps, fun g hg a ha => ?_, fun a ao na e => kp10 _ _ (b09 a ao (fun z => na (by rw [List.mem_singleton.mp z]; simp [KIds.outer])) e)⟩
    · obtain ⟨f, nn, q1, q2⟩ := htd9
      exact ⟨f, nn, kp10 _ _ q1, q2⟩
    · obtain ⟨ps, e⟩ := p9
      exact ⟨ps, kp10 _ _ e⟩
    · revert a ha
      revert g hg
      exact allC allN <| allC (allC cn0 allN) <| allC (allC rf0 allN) <| allC (allC bk0 allN) <| allC (fun a ha => tr0 a ha) <| allC (fun a ha => tp0 a ha) allN
  have kf : KF C' (A.deeper C'.env) ⟨l, ti, t, cN, cT, cn, nl, td, bk, rf⟩ fs n := ⟨c0, c1, c2, hr'.cast (by omega), stk', hfr⟩
  have h₁₉ : At fKeeps C' ⟨km ⟨l, ti, t, cN, cT, cn, nl, td, bk, rf⟩ most room y6 y7 none none none none none none, H10⟩ s₁₉ := h₁₉
  have B0 : MSok 0 (ms0 page room) := ⟨hp, .inl rfl, hro, hro', Nat.le_refl _, Nat.le_refl _, Nat.le_refl _, Nat.le_refl _⟩
  refine wp_cons (loop_spec (n := n) h₁₉ kf S B0 hrun hn hp hm hm' hro hro' fun H11 s₂₀ ba bxs x10 x11 x12 x13 x14 h₂₀ S11 hcn11 fin => ?_)
  refine wp_cons (endrow_spec (n := n) h₂₀ kf S11 hcn11 hn hn5 hp hpb hrest fun H12 s₂₁ e h₂₁ S12 he12 e0 hput12 => ?_)
  refine wp_cons (late_spec (n := n) h₂₁ kf S12 he12 (by simp) hn hn5 fin hm hm' hput12 fun H13 s₂₂ x14' h₂₂ S13 he13 => ?_)
  refine wp_cons (retrow_spec (n := n) h₂₂ kf S13 he13 (by simp) hn fin fun H14 s₂₃ tu3 el la h₂₃ S14 htu3 hel hla => ?_)
  exact back_ret h₂₃ fun h₂₄ => k s₂₃ H14 tu3 bk rf el la bxs ba h₂₄ htu3 S14.bk S14.bks S14.rf hel hla S14.but S14.p140
end
end Mine

end
section
open PySem PySem.W PyProof.Rows PySem.Calls PyProof.Rows.LCg
set_option linter.unusedVariables false
namespace Mine
noncomputable def E0 : Addr → Option AO := fun _ => none
section
variable {F F' : FnS} {C : Cx} {σ : St} {s₂ : Shared} {A : Around} {scope : Scope} {capa : List Addr} {elt iter : Expr} {ifs : List Expr} {pos xp : Pos} {x : Str} {ita l0 : Addr} {n : Nat}
theorem Lg.drop {H : Addr → Option AO} {l l' : List (Addr × AO)} (L : Lg E0 [] H l) (h : l'.Sublist l) : Lg E0 [] H l' :=
  ⟨L.nd.sublist (h.map _), fun p hp => L.at' p (h.subset hp), fun _ _ => .inr rfl, fun a ha => (by cases ha), fun a ao _ e => (by cases e)⟩
theorem Lg.kp {H H' : Addr → Option AO} {l : List (Addr × AO)} (L : Lg E0 [] H l) (k : Kp H H') : Lg E0 [] H' l :=
  ⟨L.nd, fun p hp => k _ _ (L.at' p hp), fun _ _ => .inr rfl, fun a ha => (by cases ha), fun a ao _ e => (by cases e)⟩
theorem Lg.newX {H H₀ : Addr → Option AO} {l : List (Addr × AO)} (L : Lg E0 [] H l) {D : Addr} {o : AO} (h0 : H₀ D = none) (h : H D = some o) (n : ∀ p ∈ l, p.1 ≠ D) : Lg E0 [] H ((D, o) :: l) :=
  ⟨by
    rw [List.map_cons, List.nodup_cons]
    refine ⟨fun hm => ?_, L.nd⟩
    obtain ⟨p, hp, e⟩ := List.mem_map.mp hm
    exact n p hp e, fun p hp => by
    rcases List.mem_cons.mp hp with rfl | hp
    · exact h
    · exact L.at' p hp, fun _ _ => .inr rfl, fun a ha => (by cases ha), fun a ao _ e => (by cases e)⟩
/-- a comprehension over a list -/
theorem comp_list {End : Addr → (Addr → Option AO) → List (Option AV) → Prop} (src : List AV) (Out : Nat → List AV → (Addr → Option AO) → Prop) (h : At F C σ s₂) (hr : Rm A n) (hit : σ.H ita = some (.it (.list l0 0))) (hl : σ.H l0 = some (.list src)) (hF : F'.nm = [x]) (hcv : cvs scope.names = [])
    (mono : ∀ j xs H H', Out j xs H → Kp H H' → Out j xs H') (out0 : ∀ H, Out 0 [] H) (olen : ∀ j xs H, Out j xs H → xs.length ≤ 100000)
    (body : ∀ (j : Nat) (av : AV) (C' : Cx) H' D xs s', src[j]? = some av → C'.w = C.w → C'.ca = capa → But [ita] σ.H H' → σ.H D = none → H' D = some (.list xs) → Out j xs (hrm H' ita D) → H' ita ≠ none → At F' C' ⟨[some av], H'⟩ s' → Wp C'.w A (tests ifs C'.env) (fun ok s₃ => if ok then
          Wp C'.w A (eval elt C'.env) (fun v s₄ => ∃ H'', Kp H' H'' ∧ At F' C' ⟨[some av], H''⟩ s₄ ∧ Out (j + 1) (xs ++ [er v]) (hrm H'' ita D)) (fun _ _ => False) s₃
        else ∃ H'', Kp H' H'' ∧ At F' C' ⟨[some av], H''⟩ s₃ ∧ Out (j + 1) xs (hrm H'' ita D)) (fun _ _ => False) s')
    (done : ∀ D H xs, But [ita] σ.H H → σ.H D = none → H D = some (.list xs) → Out src.length xs (hrm H ita D) → End D H σ.m)
    (ht : ∀ it v, letOwnedTupleGo (.Name x xp) it v = pure () := by intro _ _; rfl) :
    CompRun A F F' C (.ListComp elt [⟨.Name x xp, iter, ifs, 0⟩] scope pos) scope capa (.ref ita) s₂ End := by
  have ne : l0 ≠ ita := ne_of hl hit nofun
  have hl' : ∀ {H'}, But [ita] σ.H H' → H' l0 = some (.list src) := fun b => b _ _ (fun z => ne (List.mem_singleton.mp z)) hl
  refine comp_src hF hcv src.length (fun j => .list l0 j) (fun j => src.getD j .none) Out h hit rfl mono out0 olen
    (fun j C' σ' s' Q hj hw b h' hi k => ?_) (fun C' σ' s' Q hw b h' hi k => ?_) (fun j C' H' D xs s' hj hw hca b hD hd ho hi h' => ?_) done ht
  · have hx : src[j]? = some (src.getD j .none) := by rw [List.getD_eq_getElem?_getD, List.getElem?_eq_getElem hj]; rfl
    exact am_next_list h' hi (hl' b) hx fun v s'' ev h'' => k v s'' ev h''
  · exact am_end_list h' hr.hand hi (hl' b) (Nat.le_refl _) k
  · have hx : src[j]? = some (src.getD j .none) := by rw [List.getD_eq_getElem?_getD, List.getElem?_eq_getElem hj]; rfl
    exact body j _ C' H' D xs s' hx hw hca b hD hd ho (by rw [hi]; nofun) h'
/-- a comprehension over a text -/
theorem comp_str {End : Addr → (Addr → Option AO) → List (Option AV) → Prop} (src : List Nat) (Out : Nat → List AV → (Addr → Option AO) → Prop) (h : At F C σ s₂) (hr : Rm A n) (hit : σ.H ita = some (.it (.str src 0))) (hF : F'.nm = [x]) (hcv : cvs scope.names = [])
    (mono : ∀ j xs H H', Out j xs H → Kp H H' → Out j xs H') (out0 : ∀ H, Out 0 [] H) (olen : ∀ j xs H, Out j xs H → xs.length ≤ 100000)
    (body : ∀ (j c : Nat) (C' : Cx) H' D xs s', src[j]? = some c → C'.w = C.w → C'.ca = capa → But [ita] σ.H H' → σ.H D = none → H' D = some (.list xs) → Out j xs (hrm H' ita D) → H' ita ≠ none → At F' C' ⟨[some (.str [c])], H'⟩ s' → Wp C'.w A (tests ifs C'.env) (fun ok s₃ => if ok then
          Wp C'.w A (eval elt C'.env) (fun v s₄ => ∃ H'', Kp H' H'' ∧ At F' C' ⟨[some (.str [c])], H''⟩ s₄ ∧ Out (j + 1) (xs ++ [er v]) (hrm H'' ita D)) (fun _ _ => False) s₃
        else ∃ H'', Kp H' H'' ∧ At F' C' ⟨[some (.str [c])], H''⟩ s₃ ∧ Out (j + 1) xs (hrm H'' ita D)) (fun _ _ => False) s')
    (done : ∀ D H xs, But [ita] σ.H H → σ.H D = none → H D = some (.list xs) → Out src.length xs (hrm H ita D) → End D H σ.m)
    (ht : ∀ it v, letOwnedTupleGo (.Name x xp) it v = pure () := by intro _ _; rfl) :
    CompRun A F F' C (.ListComp elt [⟨.Name x xp, iter, ifs, 0⟩] scope pos) scope capa (.ref ita) s₂ End := by
  refine comp_src hF hcv src.length (fun j => .str src j) (fun j => .str [src.getD j 0]) Out h hit rfl mono out0 olen
    (fun j C' σ' s' Q hj hw b h' hi k => ?_) (fun C' σ' s' Q hw b h' hi k => ?_) (fun j C' H' D xs s' hj hw hca b hD hd ho hi h' => ?_) done ht
  · have hx : src[j]? = some (src.getD j 0) := by rw [List.getD_eq_getElem?_getD, List.getElem?_eq_getElem hj]; rfl
    exact am_next_str h' hi hx fun v s'' ev h'' => k v s'' ev h''
  · exact am_end_str h' hr.hand hi (Nat.le_refl _) k
  · have hx : src[j]? = some (src.getD j 0) := by rw [List.getD_eq_getElem?_getD, List.getElem?_eq_getElem hj]; rfl
    exact body j _ C' H' D xs s' hx hw hca b hD hd ho (by rw [hi]; nofun) h'
end
noncomputable def fLaw : FnS := ⟨["script", "drawn", "names", "page", "rests", "white", "ahead", "sign", "books", "refused", "end", "tape", "last", "paths", "length", "lines", "odd"], ["room", "whole", "sums", "number", "i", "text", "told"], [], ["len", "range", "_law_written", "_law_keeps", "_law_lexer"]⟩
noncomputable def bLaw : List Stmt := subs (nth pBody 11)
noncomputable abbrev lm (scr : Addr) (y1 y2 y3 y4 y5 y6 y7 y8 y9 y10 y11 y12 y13 y14 y15 y16 : Option AV) : List (Option AV) := [some (.ref scr), y1, y2, y3, y4, y5, y6, y7, y8, y9, y10, y11, y12, y13, y14, y15, y16]
noncomputable def defaultsL : List Int := [169, 990106, 7, 14943036, 48, 22282978]
noncomputable def draw6 (ns : List Int) : List Int := (ns.take 6).map (· % 100000000)
noncomputable def drawn (ns : List Int) : List Int := draw6 ns ++ defaultsL.drop (draw6 ns).length
noncomputable def allNames : List (List Nat) := [[97], [32], [35], [34], [92], [10], [97, 34], [9, 32, 98]]
noncomputable def d0 (ns : List Int) : Int := (drawn ns).getD 0 0
noncomputable def nN (ns : List Int) : Nat := (5 + d0 ns / 15 % 4).toNat
noncomputable def namesL (ns : List Int) : List (List Nat) := allNames.take (nN ns)
noncomputable def roomI (ns : List Int) : Int := 3 + d0 ns / 3 % 5
theorem drawn_len (ns : List Int) : (drawn ns).length = 6 := by
  unfold drawn draw6
  simp only [List.length_append, List.length_map, List.length_take, List.length_drop, defaultsL, List.length_cons, List.length_nil]
  omega
theorem drawn_get (ns : List Int) (j : Nat) (hj : j < 6) : ∃ d, (drawn ns)[j]? = some d ∧ 0 ≤ d ∧ d < 100000000 := by
  have hl := drawn_len ns
  refine ⟨(drawn ns)[j]'(by omega), List.getElem?_eq_getElem _, ?_⟩
  have hm : (drawn ns)[j]'(by omega) ∈ drawn ns := List.getElem_mem _
  generalize (drawn ns)[j]'(by omega) = d at hm ⊢
  unfold drawn at hm
  rcases List.mem_append.mp hm with h | h
  · obtain ⟨x, _, rfl⟩ := List.mem_map.mp h
    constructor <;> omega
  · have := List.mem_of_mem_drop h
    simp only [defaultsL, List.mem_cons, List.not_mem_nil, or_false] at this
    rcases this with rfl | rfl | rfl | rfl | rfl | rfl <;> decide
theorem d0_get (ns : List Int) : (drawn ns)[0]? = some (d0 ns) ∧ 0 ≤ d0 ns ∧ d0 ns < 100000000 := by
  obtain ⟨d, h1, h2, h3⟩ := drawn_get ns 0 (by decide)
  have : d0 ns = d := by unfold d0; rw [List.getD_eq_getElem?_getD, h1]; rfl
  rw [this]; exact ⟨h1, h2, h3⟩
theorem nN_le (ns : List Int) : 5 ≤ nN ns ∧ nN ns ≤ 8 := by unfold nN; omega
theorem names_len (ns : List Int) : (namesL ns).length = nN ns := by
  have := nN_le ns
  unfold namesL; rw [List.length_take]
  simp only [allNames, List.length_cons, List.length_nil]; omega
theorem room_le (ns : List Int) : 3 ≤ roomI ns ∧ roomI ns ≤ 7 := by unfold roomI; omega
/-- the frame of law -/
structure LFr (C : Cx) (A : Around) (fs : List Env) (n : Nat) (cs : List Addr) : Prop where
  ca : C.ca = cs
  hr : Rm A (n + 40)
  stk : Stk A C (C.env :: fs)
  fr : C.env.frame = some C.L
  sw : swappedStores [.Tuple [.Name "page" ⟨138, 4, 138, 8⟩, .Name "whole" ⟨138, 10, 138, 15⟩, .Name "rests" ⟨138, 17, 138, 22⟩] 0 ⟨138, 4, 138, 22⟩] (.Tuple [.Constant (.str "") 0 ⟨138, 26, 138, 28⟩, .Constant (.str "") 0 ⟨138, 30, 138, 32⟩, .List [] ⟨138, 34, 138, 36⟩] 0 ⟨138, 25, 138, 37⟩) C.env = pure none
noncomputable def fX : FnS := ⟨["x"], [], [], []⟩
noncomputable def fName : FnS := ⟨["name"], [], [], []⟩
section
variable {C : Cx} {s : Shared} {A : Around} {n : Nat} {fs : List Env} {H : Addr → Option AO} {E : Value → Shared → Prop} {Q : Flow → Shared → Prop} {scr c0 c1 c2 c3 c4 c5 c6 : Addr} {ns : List Int} {vs : List Value}
theorem law_init (h : At fLaw C ⟨lm scr none none none none none none none none none none none none none none none none, H⟩ s) (lf : LFr C A fs n [c0, c1, c2, c3, c4, c5, c6]) (hscr : C.g.IsList scr vs.toArray) (hv : vs.map er = ns.map AV.int) (hns : ns.length ≤ 63)
    (G : Lg E0 [] H [(c0, .cell none), (c1, .cell none), (c2, .cell none), (c3, .cell none), (c4, .cell none), (c5, .cell none), (c6, .cell none), (140, .raw (tabObj #[])), (147, .raw (tabObj #[]))])
    (k : ∀ H' s' dl nl rl sl z, At fLaw C ⟨lm scr (some (.ref dl)) (some (.ref nl)) (some (.str [])) (some (.ref rl)) none none none none none none none none none none none none, H'⟩ s' →
      Lg E0 [] H' [(sl, .list [.ref z]), (z, .list (((namesL ns).map fun _ => (0 : Int)).map AV.int)), (rl, .list []), (nl, .list ((namesL ns).map AV.str)), (dl, .list ((drawn ns).map AV.int)), (c0, .cell (some (.int (roomI ns)))), (c1, .cell (some (.str []))), (c2, .cell (some (.ref sl))), (c3, .cell none), (c4, .cell none), (c5, .cell none), (c6, .cell none), (140, .raw (tabObj #[])), (147, .raw (tabObj #[]))] →
      Wp C.w A (execs (bLaw.drop 6) C.env) Q E s') :
    Wp C.w A (execs bLaw C.env) Q E s := by
  have hvl : vs.length = ns.length := by have := congrArg List.length hv; simpa using this
  have ca0 : C.ca[0]? = some c0 := by rw [lf.ca]; rfl
  have ca1 : C.ca[1]? = some c1 := by rw [lf.ca]; rfl
  have ca2 : C.ca[2]? = some c2 := by rw [lf.ca]; rfl
  have hsl : ∀ {s : Shared} {σ}, At fLaw C σ s → s.heap.IsList scr vs.toArray := fun {s σ} g => by
    obtain ⟨o, e1, e2⟩ := hscr
    exact ⟨o, g.keep _ _ e1, e2⟩
  -- row 0
  refine wp_cons (am_lcompA (F' := fX) 1 [] [] h.env (by kernel_rfl!) .nil rfl (swaps_true h.env.kind (h.env.nm 1 "drawn" rfl).1 rfl rfl) (wp_sub (am_local 0 h rfl rfl fun v e => ?_)))
  cases er_ref e
  refine wp_slice (wp_pnone (wp_psome (am_cint h fun uv s₁ h₁ eu => wp_pnone ?_)))
  refine am_lslice0 (li := none) (ui := some 6) h₁ (hsl h₁) rfl eu (by omega) fun D s₂ hD h₂ => am_iter_list h₂ (hput_self _ _ _) fun it s₃ hit h₃ => ?_
  have hD : H D = none := hD
  have cut : ((vs.map er).drop (loOf none vs.length)).take (hiOf (some 6) vs.length - loOf none vs.length) = (ns.take 6).map AV.int := by
    have e2 : hiOf (some 6) vs.length = min 6 vs.length := hiOf_nat 6 _
    rw [e2, hv, show loOf none vs.length = 0 from rfl, List.drop_zero, Nat.sub_zero, List.map_take]
    rw [← List.take_take, hvl]
    congr 1
    exact List.take_of_length_le (by simp)
  rw [cut] at h₃ hit
  have kp1 : Kp H (hput H D (.list ((ns.take 6).map AV.int))) := (Kp.refl H).new hD
  have it0 : H it = none := kp1.no hit
  have kp2 := kp1.new (o := .it (.list D 0)) hit
  have gD : hput (hput H D (.list ((ns.take 6).map AV.int))) it (.it (.list D 0)) D = some (.list ((ns.take 6).map AV.int)) := put_new (hput_self _ _ _) hit
  have git : hput (hput H D (.list ((ns.take 6).map AV.int))) it (.it (.list D 0)) it = some (.it (.list D 0)) := hput_self _ _ _
  have h₃ : At fLaw C ⟨lm scr none none none none none none none none none none none none none none none none, hput (hput H D (.list ((ns.take 6).map AV.int))) it (.it (.list D 0))⟩ s₃ := h₃
  generalize hput (hput H D (.list ((ns.take 6).map AV.int))) it (.it (.list D 0)) = H2 at h₃ kp2 gD git
  refine comp_list (n := n + 40) ((ns.take 6).map AV.int) (fun j xs _ => xs = (((ns.take 6).take j).map (· % 100000000)).map AV.int) h₃ lf.hr git gD rfl (by kernel_rfl!) (fun _ _ _ _ h _ => h) (fun _ => by simp) (fun j xs _ e => by rw [e]; simp; omega) (fun j av C' H' D' xs s' hx hw hca b hD' hd ho hi h' => ?_) fun dl H3 xs b hdl hd ho s₄ h₄ => ?_
  · obtain ⟨x, hx', rfl⟩ : ∃ x, (ns.take 6)[j]? = some x ∧ av = .int x := by
      rw [List.getElem?_map] at hx
      obtain ⟨x, h1, h2⟩ := Option.map_eq_some_iff.mp hx
      exact ⟨x, h1, h2.symm⟩
    refine wp_tests0 ?_
    rw [if_pos rfl]
    refine wp_binop (am_local 0 h' rfl rfl fun v e => wp_binop (am_cint h' fun v1 s₅ h₅ e1 => am_cint h₅ fun v2 s₆ h₆ e2 => am_pow h₆ e1 e2 (by decide) (by decide) fun v3 s₇ h₇ e3 => am_mod h₇ e e3 (by decide) fun v4 s₈ h₈ e4 => ⟨H', fun _ _ e => e, h₈, ?_⟩))
    have et : (ns.take 6).take (j + 1) = (ns.take 6).take j ++ [x] := by rw [List.take_add_one (l := ns.take 6) (i := j), hx']; rfl
    rw [ho, e4, et, List.map_append, List.map_append]; rfl
  have ho : xs = (draw6 ns).map AV.int := by
    rw [ho]; unfold draw6
    rw [List.length_map, List.take_length]
  subst ho
  have kp3 : Kp H H3 := fun a ao e => b a ao (fun z => by rw [List.mem_singleton.mp z, it0] at e; cases e) (kp2 a ao e)
  have dl0 : H dl = none := kp2.no hdl
  have G3 : Lg E0 [] H3 [(dl, .list ((draw6 ns).map AV.int)), (c0, .cell none), (c1, .cell none), (c2, .cell none), (c3, .cell none), (c4, .cell none), (c5, .cell none), (c6, .cell none), (140, .raw (tabObj #[])), (147, .raw (tabObj #[]))] := by
    have g := G.new dl0 (o := .list ((draw6 ns).map AV.int))
    refine ⟨g.nd, fun p hp => ?_, fun p hp => .inr rfl, fun a ha => (by cases ha), fun a ao _ e => (by cases e)⟩
    rcases List.mem_cons.mp hp with rfl | hp
    · exact hd
    · exact kp3 _ _ (G.at' p hp)
  have h₄ : At fLaw C ⟨lm scr (some (.ref dl)) none none none none none none none none none none none none none none none, H3⟩ s₄ := h₄
  have dlen : (draw6 ns).length ≤ 6 := by unfold draw6; rw [List.length_map, List.length_take]; omega
  -- row 1
  refine wp_cons (wp_assign (wp_binop (am_local 1 h₄ rfl rfl fun v e => wp_sub (wp_list (wp_sp (am_cint h₄ fun a1 s₅ h₅ b1 => wp_sp (am_cint h₅ fun a2 s₆ h₆ b2 => wp_sp (am_cint h₆ fun a3 s₇ h₇ b3 => wp_sp (am_cint h₇ fun a4 s₈ h₈ b4 => wp_sp (am_cint h₈ fun a5 s₉ h₉ b5 => wp_sp (am_cint h₉ fun a6 s₁₀ h₁₀ b6 => wp_sp0 (am_newlist h₁₀ (by simp) fun D2 s₁₁ hD2 h₁₁ => ?_))))))))))))
  cases er_ref e
  rw [show List.map er [a1, a2, a3, a4, a5, a6] = [er a1, er a2, er a3, er a4, er a5, er a6] from rfl, b1, b2, b3, b4, b5, b6] at h₁₁
  have G4 := G3.new hD2 (o := .list (defaultsL.map AV.int))
  obtain ⟨H4, h₁₁, G4⟩ : ∃ H4, At fLaw C ⟨lm scr (some (.ref dl)) none none none none none none none none none none none none none none none, H4⟩ s₁₁ ∧ Lg E0 [] H4 [(D2, .list (defaultsL.map AV.int)), (dl, .list ((draw6 ns).map AV.int)), (c0, .cell none), (c1, .cell none), (c2, .cell none), (c3, .cell none), (c4, .cell none), (c5, .cell none), (c6, .cell none), (140, .raw (tabObj #[])), (147, .raw (tabObj #[]))] := ⟨_, h₁₁, G4⟩
  refine wp_slice (wp_psome (wp_callx (am_bltn (v := .builtin "len") 0 h₁₁ rfl (by kernel_rfl!) (by kernel_rfl!) (by decide) (wp_bargs (wp_sp (am_local 1 h₁₁ rfl rfl fun v e => ?_))))))
  cases er_ref e
  refine wp_sp0 (am_len h₁₁ (G4.get 1 rfl) (by simp; omega) fun lv s₁₂ h₁₂ el => wp_pnone (wp_pnone ?_))
  refine am_lslice (li := some ((draw6 ns).length : Int)) (ui := none) h₁₂ (G4.get 0 rfl) (by rw [el]; simp) rfl (by simp [defaultsL]) fun D3 s₁₃ hD3 h₁₃ => ?_
  have cut2 : ((defaultsL.map AV.int).drop (loOf (some ((draw6 ns).length : Int)) (defaultsL.map AV.int).length)).take (hiOf none (defaultsL.map AV.int).length - loOf (some ((draw6 ns).length : Int)) (defaultsL.map AV.int).length) = (defaultsL.drop (draw6 ns).length).map AV.int := by
    have e1 : loOf (some ((draw6 ns).length : Int)) (defaultsL.map AV.int).length = (draw6 ns).length := by
      have : (defaultsL.map AV.int).length = 6 := rfl
      exact loOf_ge (by omega)
    rw [e1, show hiOf none (defaultsL.map AV.int).length = (defaultsL.map AV.int).length from rfl, List.map_drop]
    exact List.take_of_length_le (by rw [List.length_drop]; omega)
  rw [cut2] at h₁₃
  have G5 := G4.new hD3 (o := .list ((defaultsL.drop (draw6 ns).length).map AV.int))
  refine am_ladd h₁₃ (G5.get 2 rfl) (G5.get 0 rfl) (by simp [defaultsL]; omega) fun dl2 s₁₄ hdl2 h₁₄ => am_store 1 h₁₄ rfl fun s₁₅ h₁₅ => ?_
  have G6 := G5.new hdl2 (o := .list ((draw6 ns).map AV.int ++ (defaultsL.drop (draw6 ns).length).map AV.int))
  have ed : (draw6 ns).map AV.int ++ (defaultsL.drop (draw6 ns).length).map AV.int = (drawn ns).map AV.int := by unfold drawn; rw [List.map_append]
  rw [ed] at G6
  have h₁₅ : At fLaw C ⟨lm scr (some (.ref dl2)) none none none none none none none none none none none none none none none, _⟩ s₁₅ := h₁₅
  rw [ed] at h₁₅
  obtain ⟨H5, h₁₅, G6⟩ : ∃ H5, At fLaw C ⟨lm scr (some (.ref dl2)) none none none none none none none none none none none none none none none, H5⟩ s₁₅ ∧ Lg E0 [] H5 [(dl2, .list ((drawn ns).map AV.int)), (D3, .list ((defaultsL.drop (draw6 ns).length).map AV.int)), (D2, .list (defaultsL.map AV.int)), (dl, .list ((draw6 ns).map AV.int)), (c0, .cell none), (c1, .cell none), (c2, .cell none), (c3, .cell none), (c4, .cell none), (c5, .cell none), (c6, .cell none), (140, .raw (tabObj #[])), (147, .raw (tabObj #[]))] := ⟨_, h₁₅, G6⟩
  have G7 := G6.drop (l' := [(dl2, .list ((drawn ns).map AV.int)), (c0, .cell none), (c1, .cell none), (c2, .cell none), (c3, .cell none), (c4, .cell none), (c5, .cell none), (c6, .cell none), (140, .raw (tabObj #[])), (147, .raw (tabObj #[]))]) (.cons_cons _ (.cons _ (.cons _ (.cons _ (.refl _)))))
  obtain ⟨e0, e0a, e0b⟩ := d0_get ns
  have d0at : ∀ (σ : St) s (Q : Value → Shared → Prop) (E : Value → Shared → Prop) p1 p2 p3, At fLaw C σ s → σ.m[1]? = some (some (.ref dl2)) → σ.H dl2 = some (.list ((drawn ns).map AV.int)) → (∀ v s', At fLaw C σ s' → er v = .int (d0 ns) → Q v s') → Wp C.w A (eval (.Subscript (.Name "drawn" p1) (.Constant (.int 0) 0 p2) p3) C.env) Q E s := fun σ s Q E p1 p2 p3 g a b q =>
    wp_sub (am_local 1 g rfl a fun v e => am_cint g fun v₂ s₂ g₂ e₂ => by
      cases er_ref e
      exact am_tailitem g₂ (.inl b) e₂ (by decide) (by rw [List.getElem?_map]; show Option.map _ (drawn ns)[0]? = _; rw [e0]; rfl) (by decide) fun v₃ e₃ => q v₃ _ g₂ e₃)
  -- row 2
  refine wp_cons (wp_assign (wp_sub (wp_list (wp_sp (am_cstr h₁₅ fun a1 s₅ h₅ b1 => wp_sp (am_cstr h₅ fun a2 s₆ h₆ b2 => wp_sp (am_cstr h₆ fun a3 s₇ h₇ b3 => wp_sp (am_cstr h₇ fun a4 s₈ h₈ b4 => wp_sp (am_cstr h₈ fun a5 s₉ h₉ b5 => wp_sp (am_cstr h₉ fun a6 s₁₀ h₁₀ b6 => wp_sp (am_cstr h₁₀ fun a7 s₁₁ h₁₁ b7 => wp_sp (am_cstr h₁₁ fun a8 s₁₂ h₁₂ b8 => wp_sp0 (am_newlist h₁₂ (by simp) fun D4 s₁₃ hD4 h₁₃ => ?_)))))))))))))
  rw [show List.map er [a1, a2, a3, a4, a5, a6, a7, a8] = [er a1, er a2, er a3, er a4, er a5, er a6, er a7, er a8] from rfl, b1, b2, b3, b4, b5, b6, b7, b8] at h₁₃
  have G8 := G7.new hD4 (o := .list (allNames.map AV.str))
  obtain ⟨H6, h₁₃, G8⟩ : ∃ H6, At fLaw C ⟨lm scr (some (.ref dl2)) none none none none none none none none none none none none none none none, H6⟩ s₁₃ ∧ Lg E0 [] H6 [(D4, .list (allNames.map AV.str)), (dl2, .list ((drawn ns).map AV.int)), (c0, .cell none), (c1, .cell none), (c2, .cell none), (c3, .cell none), (c4, .cell none), (c5, .cell none), (c6, .cell none), (140, .raw (tabObj #[])), (147, .raw (tabObj #[]))] := ⟨_, h₁₃, G8⟩
  refine wp_slice (wp_pnone (wp_psome (wp_binop (am_cint h₁₃ fun v5 s₁₄ h₁₄ e5 => wp_binop (wp_binop (d0at _ _ _ _ _ _ _ h₁₄ rfl (G8.get 1 rfl) fun dv s₁₅ h₁₅ edv => am_cint h₁₅ fun v15 s₁₆ h₁₆ e15 => am_fdiv h₁₆ edv e15 (by decide) (by decide) fun w1 s₁₇ h₁₇ ew1 => am_cint h₁₇ fun v4 s₁₈ h₁₈ e4 => am_mod h₁₈ ew1 e4 (by decide) fun w2 s₁₉ h₁₉ ew2 => am_add h₁₉ e5 ew2 fun w3 s₂₀ h₂₀ ew3 => wp_pnone ?_))))))
  refine am_lslice (li := none) (ui := some (5 + d0 ns / 15 % 4)) h₂₀ (G8.get 0 rfl) rfl ew3 (by decide) fun nl s₂₁ hnl h₂₁ => am_store 2 h₂₁ rfl fun s₂₂ h₂₂ => ?_
  have cut3 : ((allNames.map AV.str).drop (loOf none (allNames.map AV.str).length)).take (hiOf (some (5 + d0 ns / 15 % 4)) (allNames.map AV.str).length - loOf none (allNames.map AV.str).length) = (namesL ns).map AV.str := by
    have e1 : hiOf (some (5 + d0 ns / 15 % 4)) (allNames.map AV.str).length = nN ns := by
      have : (allNames.map AV.str).length = 8 := rfl
      rw [hiOf_pos (by omega), this]; exact Nat.min_eq_left (nN_le ns).2
    rw [e1, show loOf none (allNames.map AV.str).length = 0 from rfl, List.drop_zero, Nat.sub_zero]
    unfold namesL; rw [List.map_take]
  have G9 := (G8.new hnl (o := .list (((allNames.map AV.str).drop (loOf none (allNames.map AV.str).length)).take (hiOf (some (5 + d0 ns / 15 % 4)) (allNames.map AV.str).length - loOf none (allNames.map AV.str).length))))
  have h₂₂ : At fLaw C ⟨lm scr (some (.ref dl2)) (some (.ref nl)) none none none none none none none none none none none none none none, _⟩ s₂₂ := h₂₂
  rw [cut3] at G9 h₂₂
  obtain ⟨H7, h₂₂, G9⟩ : ∃ H7, At fLaw C ⟨lm scr (some (.ref dl2)) (some (.ref nl)) none none none none none none none none none none none none none none, H7⟩ s₂₂ ∧ Lg E0 [] H7 [(nl, .list ((namesL ns).map AV.str)), (D4, .list (allNames.map AV.str)), (dl2, .list ((drawn ns).map AV.int)), (c0, .cell none), (c1, .cell none), (c2, .cell none), (c3, .cell none), (c4, .cell none), (c5, .cell none), (c6, .cell none), (140, .raw (tabObj #[])), (147, .raw (tabObj #[]))] := ⟨_, h₂₂, G9⟩
  have G10 := G9.drop (l' := [(nl, .list ((namesL ns).map AV.str)), (dl2, .list ((drawn ns).map AV.int)), (c0, .cell none), (c1, .cell none), (c2, .cell none), (c3, .cell none), (c4, .cell none), (c5, .cell none), (c6, .cell none), (140, .raw (tabObj #[])), (147, .raw (tabObj #[]))]) (.cons_cons _ (.cons _ (.refl _)))
  -- row 3
  refine wp_cons (wp_assign (wp_binop (am_cint h₂₂ fun v3 s₂₃ h₂₃ e3 => wp_binop (wp_binop (d0at _ _ _ _ _ _ _ h₂₃ rfl (G10.get 1 rfl) fun dv s₂₄ h₂₄ edv => am_cint h₂₄ fun v15 s₂₅ h₂₅ e15 => am_fdiv h₂₅ edv e15 (by decide) (by decide) fun w1 s₂₆ h₂₆ ew1 => am_cint h₂₆ fun v4 s₂₇ h₂₇ e4 => am_mod h₂₇ ew1 e4 (by decide) fun w2 s₂₈ h₂₈ ew2 => am_add h₂₈ e3 ew2 fun w3 s₂₉ h₂₉ ew3 => ?_)))))
  refine am_storecell 0 h₂₉ rfl ca0 (G10.get 2 rfl) fun s₃₀ h₃₀ => ?_
  rw [ew3] at h₃₀
  have G11 := G10.set 2 (o' := .cell (some (.int (roomI ns)))) rfl
  -- row 4
  refine wp_cons (wp_atup (wp_tuple (wp_sp (am_cstr h₃₀ fun p1 s₃₁ h₃₁ ep1 => wp_sp (am_cstr h₃₁ fun p2 s₃₂ h₃₂ ep2 => wp_sp (wp_list (wp_sp0 (am_newlist h₃₂ (Nat.zero_le _) fun rl s₃₃ hrl h₃₃ => ?_))))))) rfl lf.sw)
  have G12 := G11.new hrl (o := .list [])
  refine wp_sp0 (am_newtuple h₃₃ (by simp) fun tu s₃₄ htu h₃₄ => ?_)
  rw [show List.map er [p1, p2, Value.ref rl] = [er p1, er p2, .ref rl] from rfl, ep1, ep2] at h₃₄
  have G13 := G12.new htu (o := .tuple [.str [], .str [], .ref rl])
  obtain ⟨H8, h₃₄, G13⟩ : ∃ H8, At fLaw C ⟨lm scr (some (.ref dl2)) (some (.ref nl)) none none none none none none none none none none none none none none, H8⟩ s₃₄ ∧ Lg E0 [] H8 [(tu, .tuple [.str [], .str [], .ref rl]), (rl, .list []), (nl, .list ((namesL ns).map AV.str)), (dl2, .list ((drawn ns).map AV.int)), (c0, .cell (some (.int (roomI ns)))), (c1, .cell none), (c2, .cell none), (c3, .cell none), (c4, .cell none), (c5, .cell none), (c6, .cell none), (140, .raw (tabObj #[])), (147, .raw (tabObj #[]))] := ⟨_, h₃₄, G13⟩
  refine am_untuple h₃₄ lf.hr.hand (G13.get 0 rfl) rfl rfl fun vs' s₃₅ evs h₃₅ => ?_
  obtain ⟨v1, v2, v3, rfl, ev1, ev2, ev3⟩ := ers3 evs
  cases er_ref ev3
  refine wp_ino (wp_asgn (am_store 3 h₃₅ rfl fun s₃₆ h₃₆ => wp_ino (wp_asgn (am_storecell 1 h₃₆ rfl ca1 (G13.get 5 rfl) fun s₃₇ h₃₇ => wp_ino (wp_asgn (am_store 4 h₃₇ rfl fun s₃₈ h₃₈ => wp_ino0 ?_))))))
  have G14 := G13.set 5 (o' := .cell (some (er v2))) rfl
  have h₃₈ : At fLaw C ⟨lm scr (some (.ref dl2)) (some (.ref nl)) (some (er v1)) (some (.ref rl)) none none none none none none none none none none none none, _⟩ s₃₈ := h₃₈
  rw [ev1, ev2] at h₃₈
  rw [ev2] at G14
  obtain ⟨H9, h₃₈, G14⟩ : ∃ H9, At fLaw C ⟨lm scr (some (.ref dl2)) (some (.ref nl)) (some (.str [])) (some (.ref rl)) none none none none none none none none none none none none, H9⟩ s₃₈ ∧ Lg E0 [] H9 [(tu, .tuple [.str [], .str [], .ref rl]), (rl, .list []), (nl, .list ((namesL ns).map AV.str)), (dl2, .list ((drawn ns).map AV.int)), (c0, .cell (some (.int (roomI ns)))), (c1, .cell (some (.str []))), (c2, .cell none), (c3, .cell none), (c4, .cell none), (c5, .cell none), (c6, .cell none), (140, .raw (tabObj #[])), (147, .raw (tabObj #[]))] := ⟨_, h₃₈, G14⟩
  have G15 := G14.drop (.cons _ (.refl _))
  -- row 5
  refine wp_cons (wp_assign (wp_list (wp_sp (am_lcomp (F' := fName) [] [] h₃₈.env (by kernel_rfl!) .nil (am_local 2 h₃₈ rfl rfl fun v e => ?_)))))
  cases er_ref e
  refine am_iter_list h₃₈ (G15.get 1 rfl) fun it s₃₉ hit h₃₉ => ?_
  have hit9 : H9 it = none := hit
  have kpi : Kp H9 (hput H9 it (.it (.list nl 0))) := (Kp.refl H9).new hit9
  have gnl : hput H9 it (.it (.list nl 0)) nl = some (.list ((namesL ns).map AV.str)) := kpi _ _ (G15.get 1 rfl)
  refine comp_list (n := n + 40) ((namesL ns).map AV.str) (fun j xs _ => xs = (((namesL ns).take j).map fun _ => (0 : Int)).map AV.int) h₃₉ lf.hr (hput_self _ _ _) gnl rfl (by kernel_rfl!) (fun _ _ _ _ h _ => h) (fun _ => by simp) (fun j xs _ e => by rw [e]; simp; have := nN_le ns; have := names_len ns; omega) (fun j av C' H' D' xs s' hx hw hca b hD' hd ho hi h' => ?_) fun z H10 xs b hz hd ho s₄₀ h₄₀ => ?_
  · refine wp_tests0 ?_
    rw [if_pos rfl]
    refine am_cint h' fun v1 s₅ h₅ e1 => ⟨H', fun _ _ e => e, h₅, ?_⟩
    have hj : j < (namesL ns).length := by have := (List.getElem?_eq_some_iff.mp hx).1; simpa using this
    obtain ⟨x, hx2⟩ : ∃ x, (namesL ns)[j]? = some x := ⟨_, List.getElem?_eq_getElem hj⟩
    have et : (namesL ns).take (j + 1) = (namesL ns).take j ++ [x] := by rw [List.take_add_one (l := namesL ns) (i := j), hx2]; rfl
    rw [ho, e1, et, List.map_append, List.map_append]; rfl
  have ho : xs = ((namesL ns).map fun _ => (0 : Int)).map AV.int := by
    rw [ho, List.length_map, List.take_length]
  subst ho
  have kp10 : Kp H9 H10 := fun a ao e => b a ao (fun z => by rw [List.mem_singleton.mp z, hit9] at e; cases e) (kpi a ao e)
  have G16 := (G15.kp kp10).newX (kpi.no hz) hd (o := .list (((namesL ns).map fun _ => (0 : Int)).map AV.int)) (fun p hp z => by
    have := G15.at' p hp
    rw [z, kpi.no hz] at this; cases this)
  refine wp_sp0 (am_newlist h₄₀ (by simp) fun sl s₄₁ hsl' h₄₁ => am_storecell 2 h₄₁ rfl ca2 (put_new ((kp10 _ _ (G15.get 5 rfl))) hsl') fun s₄₂ h₄₂ => ?_)
  have G17 := (G16.new hsl' (o := .list [.ref z])).set 7 (o' := .cell (some (.ref sl))) rfl
  exact k _ s₄₂ dl2 nl rl sl z h₄₂ G17
end
end Mine

end
section
open PySem PySem.W PyProof.Rows PySem.Calls PyProof.Rows.LCg
set_option linter.unusedVariables false
namespace Mine
section
variable {F : FnS} {C : Cx} {σ : St} {s : Shared} {A : Around}
/-- a loop over a list -/
theorem cd_list {R : Result → Shared → Prop} {target : Expr} {body : List Stmt} {it l0 : Addr} (src : List AV) (I : Nat → St → Prop) (hh : A.handled = none) (stab : ∀ j σ k, I j σ → I j (σ.put it (.it k))) (stabd : ∀ j σ, I j σ → I j ⟨σ.m, hdel σ.H it⟩) (hsrc : ∀ j σ, I j σ → σ.H l0 = some (.list src))
    (turn : ∀ (T : Flow → Shared → Prop) j σ s v av, (∀ σ' s₃, I (j + 1) σ' → σ'.H it = some (.it (.list l0 (j + 1))) → At F C σ' s₃ → T .next s₃) → (∀ σ' s₃, I (j + 1) σ' → σ'.H it = some (.it (.list l0 (j + 1))) → At F C σ' s₃ → T .cont s₃) → (∀ s₃, R (.ok .next) s₃ → T .brk s₃) → (∀ v s₃, R (.ok (.ret v)) s₃ → T (.ret v) s₃) → src[j]? = some av → I j σ → At F C σ s → σ.H it = some (.it (.list l0 (j + 1))) → er v = av → Wp C.w A (assign target C.env v) (fun _ s₂ => Wp C.w A (execs body C.env) T (fun _ _ => False) s₂) (fun _ _ => False) s)
    (fin : ∀ σ s, I src.length σ → At F C σ s → R (.ok .next) s) (h0 : I 0 σ) (hit : σ.H it = some (.it (.list l0 0))) (h : At F C σ s)
    (ht : ∀ v, letOwnedTupleGo target (.ref it) v = pure () := by intro _; rfl) : Cd C.w A (.forLoop target (.ref it) body [] C.env) R s := by
  refine cd_for (fun n σ₁ => ∃ j, j + n = src.length ∧ σ₁.H it = some (.it (.list l0 j)) ∧ I j σ₁) (fun n σ₁ s₁ hI h₁ => ?_) src.length ⟨0, by omega, hit, h0⟩ h ht
  obtain ⟨j, hj, hit', hI⟩ := hI
  have hl := hsrc j σ₁ hI
  cases n with
  | zero =>
    have : j = src.length := by omega
    subst this
    exact am_end_list h₁ hh hit' hl (Nat.le_refl _) fun s₂ h₂ => fin _ _ (stabd _ _ hI) h₂
  | succ n =>
    obtain ⟨av, hav⟩ : ∃ av, src[j]? = some av := ⟨_, List.getElem?_eq_getElem (by omega)⟩
    refine am_next_list h₁ hit' hl hav fun v s₂ ev h₂ => ?_
    have hI2 := stab j σ₁ (.list l0 (j + 1)) hI
    refine (turn (fun f s₃ => match f with
      | .brk => R (.ok .next) s₃
      | .ret v => R (.ok (.ret v)) s₃
      | _ => ∃ σ', I (j + 1) σ' ∧ σ'.H it = some (.it (.list l0 (j + 1))) ∧ At F C σ' s₃) j _ s₂ v av (fun σ' _ x y z => ⟨σ', x, y, z⟩) (fun σ' _ x y z => ⟨σ', x, y, z⟩) (fun _ x => x) (fun _ _ x => x) hav hI2 h₂ (hput_self _ _ _) ev).mono fun _ s₃ w₃ => w₃.mono fun f s₄ q => ?_
    cases f with
    | brk => exact q
    | ret v => exact q
    | next => obtain ⟨σ', q1, q2, q3⟩ := q; exact ⟨n, σ', by omega, ⟨j + 1, by omega, q2, q1⟩, q3⟩
    | cont => obtain ⟨σ', q1, q2, q3⟩ := q; exact ⟨n, σ', by omega, ⟨j + 1, by omega, q2, q1⟩, q3⟩
/-- a loop over a text -/
theorem cd_str {R : Result → Shared → Prop} {target : Expr} {body : List Stmt} {it : Addr} (src : List Nat) (I : Nat → St → Prop) (hh : A.handled = none) (stab : ∀ j σ k, I j σ → I j (σ.put it (.it k))) (stabd : ∀ j σ, I j σ → I j ⟨σ.m, hdel σ.H it⟩)
    (turn : ∀ (T : Flow → Shared → Prop) j σ s v c, (∀ σ' s₃, I (j + 1) σ' → σ'.H it = some (.it (.str src (j + 1))) → At F C σ' s₃ → T .next s₃) → (∀ σ' s₃, I (j + 1) σ' → σ'.H it = some (.it (.str src (j + 1))) → At F C σ' s₃ → T .cont s₃) → (∀ s₃, R (.ok .next) s₃ → T .brk s₃) → (∀ v s₃, R (.ok (.ret v)) s₃ → T (.ret v) s₃) → src[j]? = some c → I j σ → At F C σ s → σ.H it = some (.it (.str src (j + 1))) → er v = .str [c] → Wp C.w A (assign target C.env v) (fun _ s₂ => Wp C.w A (execs body C.env) T (fun _ _ => False) s₂) (fun _ _ => False) s)
    (fin : ∀ σ s, I src.length σ → At F C σ s → R (.ok .next) s) (h0 : I 0 σ) (hit : σ.H it = some (.it (.str src 0))) (h : At F C σ s)
    (ht : ∀ v, letOwnedTupleGo target (.ref it) v = pure () := by intro _; rfl) : Cd C.w A (.forLoop target (.ref it) body [] C.env) R s := by
  refine cd_for (fun n σ₁ => ∃ j, j + n = src.length ∧ σ₁.H it = some (.it (.str src j)) ∧ I j σ₁) (fun n σ₁ s₁ hI h₁ => ?_) src.length ⟨0, by omega, hit, h0⟩ h ht
  obtain ⟨j, hj, hit', hI⟩ := hI
  cases n with
  | zero =>
    have : j = src.length := by omega
    subst this
    exact am_end_str h₁ hh hit' (Nat.le_refl _) fun s₂ h₂ => fin _ _ (stabd _ _ hI) h₂
  | succ n =>
    obtain ⟨c, hc⟩ : ∃ c, src[j]? = some c := ⟨_, List.getElem?_eq_getElem (by omega)⟩
    refine am_next_str h₁ hit' hc fun v s₂ ev h₂ => ?_
    have hI2 := stab j σ₁ (.str src (j + 1)) hI
    refine (turn (fun f s₃ => match f with
      | .brk => R (.ok .next) s₃
      | .ret v => R (.ok (.ret v)) s₃
      | _ => ∃ σ', I (j + 1) σ' ∧ σ'.H it = some (.it (.str src (j + 1))) ∧ At F C σ' s₃) j _ s₂ v c (fun σ' _ x y z => ⟨σ', x, y, z⟩) (fun σ' _ x y z => ⟨σ', x, y, z⟩) (fun _ x => x) (fun _ _ x => x) hc hI2 h₂ (hput_self _ _ _) ev).mono fun _ s₃ w₃ => w₃.mono fun f s₄ q => ?_
    cases f with
    | brk => exact q
    | ret v => exact q
    | next => obtain ⟨σ', q1, q2, q3⟩ := q; exact ⟨n, σ', by omega, ⟨j + 1, by omega, q2, q1⟩, q3⟩
    | cont => obtain ⟨σ', q1, q2, q3⟩ := q; exact ⟨n, σ', by omega, ⟨j + 1, by omega, q2, q1⟩, q3⟩
end
/-- rows of sums -/
noncomputable def SumsAt (H : Addr → Option AO) (xs : List AV) (ss : List (List Int)) (sa : List Addr) : Prop :=
  xs.length = ss.length ∧ ∀ (i : Nat) v, ss[i]? = some v → ∃ a, xs[i]? = some (.ref a) ∧ a ∈ sa ∧ H a = some (.list (v.map AV.int))
theorem SumsAt.agree {H H' : Addr → Option AO} {xs : List AV} {ss : List (List Int)} {sa : List Addr} (B : SumsAt H xs ss sa) (k : Ag sa H H') : SumsAt H' xs ss sa :=
  ⟨B.1, fun i v e => let ⟨a, q1, q2, q3⟩ := B.2 i v e; ⟨a, q1, q2, k _ q2 _ q3⟩⟩
theorem SumsAt.snoc {H : Addr → Option AO} {xs : List AV} {ss : List (List Int)} {sa : List Addr} (B : SumsAt H xs ss sa) {a : Addr} {v : List Int} (ha : H a = some (.list (v.map AV.int))) : SumsAt H (xs ++ [.ref a]) (ss ++ [v]) (a :: sa) := by
  refine ⟨by simp [B.1], fun i v' e => ?_⟩
  by_cases hi : i < ss.length
  · rw [List.getElem?_append_left hi] at e
    obtain ⟨a', q1, q2, q3⟩ := B.2 i v' e
    exact ⟨a', by rw [List.getElem?_append_left (by rw [B.1]; exact hi)]; exact q1, .tail _ q2, q3⟩
  · rw [List.getElem?_append_right (Nat.le_of_not_lt hi)] at e
    have hi0 : i - ss.length = 0 := by
      have := (List.getElem?_eq_some_iff.mp e).1
      simp at this; omega
    rw [hi0] at e
    simp only [List.getElem?_cons_zero, Option.some.injEq] at e
    subst e
    refine ⟨a, ?_, .head _, ha⟩
    rw [List.getElem?_append_right (by rw [B.1]; omega), B.1, hi0]; rfl
structure LIds where
  c0 : Addr
  c1 : Addr
  c2 : Addr
  c3 : Addr
  c4 : Addr
  c5 : Addr
  c6 : Addr
  nl : Addr
  sl : Addr
structure DS where
  page : List Nat
  whole : List Nat
  rests : List (List Nat)
  sums : List (List Int)
/-- law's own objects while it builds -/
structure LS (i : LIds) (names : List (List Nat)) (room : Int) (ds : DS) (rl : Addr) (xs : List AV) (sa : List Addr) (v3 v4 v5 v6 : Option AV) (H : Addr → Option AO) : Prop where
  G : Lg E0 [] H [(rl, .list (ds.rests.map AV.str)), (i.sl, .list xs), (i.nl, .list (names.map AV.str)), (i.c0, .cell (some (.int room))), (i.c1, .cell (some (.str ds.whole))), (i.c2, .cell (some (.ref i.sl))), (i.c3, .cell v3), (i.c4, .cell v4), (i.c5, .cell v5), (i.c6, .cell v6), (140, .raw (tabObj #[])), (147, .raw (tabObj #[]))]
  S : SumsAt H xs ds.sums sa
  ap : i.sl ∉ sa
  kn : ∀ a ∈ sa, ∃ xs, H a = some (.list xs)
section
variable {i : LIds} {names : List (List Nat)} {room : Int} {ds : DS} {rl : Addr} {xs : List AV} {sa : List Addr} {v3 v4 v5 v6 : Option AV} {H H' : Addr → Option AO}
theorem LS.kp (L : LS i names room ds rl xs sa v3 v4 v5 v6 H) (k : Kp H H') : LS i names room ds rl xs sa v3 v4 v5 v6 H' :=
  ⟨L.G.kp k, L.S.agree (k.ag _), L.ap, fun a ha => let ⟨x, e⟩ := L.kn a ha; ⟨x, k _ _ e⟩⟩
/-- all that it says of a heap, but at one address -/
theorem LS.known (L : LS i names room ds rl xs sa v3 v4 v5 v6 H) : ∀ a ∈ [rl, i.sl, i.nl, i.c0, i.c1, i.c2, i.c3, i.c4, i.c5, i.c6, 140, 147] ++ sa, H a ≠ none := fun a ha => by
  rcases List.mem_append.mp ha with ha | ha
  · have : a ∈ ([(rl, AO.list (ds.rests.map AV.str)), (i.sl, .list xs), (i.nl, .list (names.map AV.str)), (i.c0, .cell (some (.int room))), (i.c1, .cell (some (.str ds.whole))), (i.c2, .cell (some (.ref i.sl))), (i.c3, .cell v3), (i.c4, .cell v4), (i.c5, .cell v5), (i.c6, .cell v6), (140, .raw (tabObj #[])), (147, .raw (tabObj #[]))] : List (Addr × AO)).map (·.1) := ha
    obtain ⟨p, hp, rfl⟩ := List.mem_map.mp this
    rw [L.G.at' p hp]; nofun
  · obtain ⟨x, e⟩ := L.kn a ha
    rw [e]; nofun
theorem LS.off (L : LS i names room ds rl xs sa v3 v4 v5 v6 H) {it : Addr} (n : it ∉ [rl, i.sl, i.nl, i.c0, i.c1, i.c2, i.c3, i.c4, i.c5, i.c6, 140, 147] ++ sa) (k : ∀ a ao, a ≠ it → H a = some ao → H' a = some ao) : LS i names room ds rl xs sa v3 v4 v5 v6 H' := by
  have ns : ∀ a ∈ sa, a ≠ it := fun a ha z => n (List.mem_append_right _ (z ▸ ha))
  refine ⟨⟨L.G.nd, fun p hp => ?_, fun _ _ => .inr rfl, fun a ha => (by cases ha), fun a ao _ e => (by cases e)⟩, L.S.agree fun a ha ao e => k a ao (ns a ha) e, L.ap, fun a ha => let ⟨x, e⟩ := L.kn a ha; ⟨x, k _ _ (ns a ha) e⟩⟩
  refine k _ _ (fun z => n (List.mem_append_left _ ?_)) (L.G.at' p hp)
  rw [← z]
  exact List.mem_map_of_mem (f := (·.1)) hp
/-- a cell is put -/
theorem LS.putS (L : LS i names room ds rl xs sa v3 v4 v5 v6 H) {c : Addr} {v w : Option AV} (h : H c = some (.cell v)) : SumsAt (hput H c (.cell w)) xs ds.sums sa ∧ ∀ a ∈ sa, ∃ xs, hput H c (.cell w) a = some (.list xs) :=
  ⟨L.S.agree fun a ha ao e => (by
    obtain ⟨x, e'⟩ := L.kn a ha
    exact put_keep e (ne_of e' h nofun)), fun a ha => let ⟨x, e'⟩ := L.kn a ha; ⟨x, put_keep e' (ne_of e' h nofun)⟩⟩
theorem LS.put1 (L : LS i names room ds rl xs sa v3 v4 v5 v6 H) (w : List Nat) : LS i names room { ds with whole := w } rl xs sa v3 v4 v5 v6 (hput H i.c1 (.cell (some (.str w)))) :=
  ⟨L.G.set 4 rfl, (L.putS (L.G.get 4 rfl)).1, L.ap, (L.putS (L.G.get 4 rfl)).2⟩
theorem LS.put3 (L : LS i names room ds rl xs sa v3 v4 v5 v6 H) (w : Option AV) : LS i names room ds rl xs sa w v4 v5 v6 (hput H i.c3 (.cell w)) :=
  ⟨L.G.set 6 rfl, (L.putS (L.G.get 6 rfl)).1, L.ap, (L.putS (L.G.get 6 rfl)).2⟩
theorem LS.put4 (L : LS i names room ds rl xs sa v3 v4 v5 v6 H) (w : Option AV) : LS i names room ds rl xs sa v3 w v5 v6 (hput H i.c4 (.cell w)) :=
  ⟨L.G.set 7 rfl, (L.putS (L.G.get 7 rfl)).1, L.ap, (L.putS (L.G.get 7 rfl)).2⟩
theorem LS.put5 (L : LS i names room ds rl xs sa v3 v4 v5 v6 H) (w : Option AV) : LS i names room ds rl xs sa v3 v4 w v6 (hput H i.c5 (.cell w)) :=
  ⟨L.G.set 8 rfl, (L.putS (L.G.get 8 rfl)).1, L.ap, (L.putS (L.G.get 8 rfl)).2⟩
theorem LS.rest (L : LS i names room ds rl xs sa v3 v4 v5 v6 H) {rl' : Addr} {r : List (List Nat)} (h : H rl' = some (.list (r.map AV.str))) (n : rl' ∉ [rl, i.sl, i.nl, i.c0, i.c1, i.c2, i.c3, i.c4, i.c5, i.c6, 140, 147] ++ sa) : LS i names room { ds with rests := r } rl' xs sa v3 v4 v5 v6 H := by
  refine ⟨⟨?_, fun p hp => ?_, fun _ _ => .inr rfl, fun a ha => (by cases ha), fun a ao _ e => (by cases e)⟩, L.S, L.ap, L.kn⟩
  · have := L.G.nd
    simp only [List.map_cons, List.nodup_cons] at this ⊢
    refine ⟨fun z => n (List.mem_append_left _ (.tail _ z)), this.2⟩
  · rcases List.mem_cons.mp hp with rfl | hp
    · exact h
    · exact L.G.at' p (.tail _ hp)
theorem LS.row (L : LS i names room ds rl xs sa v3 v4 v5 v6 H) {a : Addr} {v : List Int} (h : H a = some (.list (v.map AV.int))) (n : a ∉ [rl, i.sl, i.nl, i.c0, i.c1, i.c2, i.c3, i.c4, i.c5, i.c6, 140, 147] ++ sa) :
    LS i names room { ds with sums := ds.sums ++ [v] } rl (xs ++ [.ref a]) (a :: sa) v3 v4 v5 v6 (hput H i.sl (.list (xs ++ [.ref a]))) := by
  have nsl : a ≠ i.sl := fun z => n (by rw [z]; simp)
  have keep : ∀ b ∈ a :: sa, b ≠ i.sl := fun b hb z => by
    rcases List.mem_cons.mp hb with rfl | hb
    · exact nsl z
    · exact L.ap (z ▸ hb)
  refine ⟨L.G.set 1 rfl, (L.S.snoc h).agree fun b hb ao e => put_keep e (keep b hb), fun z => keep _ z rfl, fun b hb => ?_⟩
  rcases List.mem_cons.mp hb with rfl | hb'
  · exact ⟨_, put_keep h nsl⟩
  · obtain ⟨x, e⟩ := L.kn b hb'
    exact ⟨x, put_keep e (keep b hb)⟩
end
end Mine

end
section
open PySem PySem.W PyProof.Rows PySem.Calls PyProof.Rows.LCg
set_option linter.unusedVariables false
namespace Mine
noncomputable def alphaL : List Nat := [97, 98, 32, 9, 13, 10, 34, 92]
noncomputable def whsL : List Nat := [32, 9, 13, 10]
noncomputable def dI (N : Nat) (num : Int) : Nat := (num % 8 % N).toNat
noncomputable def dSign (num : Int) (k : Nat) : Nat := alphaL.getD (num / 40 / 8 ^ k % 8).toNat 0
noncomputable def dText (num : Int) : List Nat := (List.range (num / 8 % 5).toNat).map (dSign num)
noncomputable def dWhite (num : Int) : List Nat := [whsL.getD (num / 2621440 % 4).toNat 0]
noncomputable def dAhead (num : Int) : List Nat := (List.replicate (num / 10485760 % 3).toNat (dWhite num)).flatten
noncomputable def restsOf (w : Nat) (text : List Nat) (room : Int) : List (List Nat) := ((List.range text.length).filter fun (k : Nat) => decide ((w : Int) + (k : Int) > 0) && (((w : Int) + (k : Int)) % room == 0)).map fun k => text.drop k
noncomputable def nextRow (N i : Nat) (row : List Int) : List Int := (List.range N).map fun j => row.getD j 0 + if (i : Int) ≤ (j : Int) then 1 else 0
noncomputable def addRows (N i : Nat) : Nat → List (List Int) → List (List Int)
  | 0, ss => ss
  | n + 1, ss => addRows N i n (ss ++ [nextRow N i (ss.getLast?.getD [])])
noncomputable def deedStep (names : List (List Nat)) (room : Int) (num : Int) (ds : DS) : DS where
  page := (ds.page ++ (dAhead num ++ written (names.getD (dI names.length num) []) (num / 163840 % 4) (dWhite num))) ++ (dAhead num ++ written (dText num) (num / 655360 % 4) (dWhite num))
  whole := ds.whole ++ dText num
  rests := ds.rests ++ restsOf ds.whole.length (dText num) room
  sums := addRows names.length (dI names.length num) (dText num).length ds.sums
theorem dText_len (num : Int) : (dText num).length ≤ 4 := by unfold dText; rw [List.length_map, List.length_range]; omega
theorem getD_mem {α : Type} {l : List α} {i : Nat} {d : α} (h : i < l.length) : l.getD i d ∈ l := by
  rw [List.getD_eq_getElem?_getD, List.getElem?_eq_getElem h]; exact List.getElem_mem _
theorem dSign_mem (num : Int) (k : Nat) : dSign num k ∈ alphaL := by
  unfold dSign
  refine getD_mem ?_
  have : alphaL.length = 8 := rfl
  omega
theorem dText_all (num : Int) : (dText num).all (· < 128) = true := by
  rw [List.all_eq_true]
  intro c hc
  obtain ⟨k, _, rfl⟩ := List.mem_map.mp hc
  have := dSign_mem num k
  simp only [alphaL, List.mem_cons, List.not_mem_nil, or_false] at this
  rcases this with h | h | h | h | h | h | h | h <;> rw [h] <;> decide
theorem written_len (word : List Nat) (m : Int) (w : List Nat) : (written word m w).length ≤ 2 * word.length + w.length + 2 := by
  unfold written
  have h1 := signs_len true (m % 2 == 1) word 0
  have h2 := signs_len false (m % 2 == 1) word 0
  split
  · rw [List.length_append]; omega
  · rw [List.length_append, List.length_cons, List.length_cons, List.length_nil]; omega
theorem dWhite_len (num : Int) : (dWhite num).length = 1 := rfl
theorem dAhead_len (num : Int) : (dAhead num).length ≤ 2 := by
  unfold dAhead
  rw [List.length_flatten, List.map_replicate, dWhite_len, List.sum_replicate_nat]
  omega
theorem pow8 : ∀ k : Nat, k ≤ 4 → (0 : Int) < 8 ^ k ∧ (8 : Int) ^ k < 1000000000
  | 0, _ => by decide
  | 1, _ => by decide
  | 2, _ => by decide
  | 3, _ => by decide
  | 4, _ => by decide
  | k + 5, h => by omega
theorem bits8 : ∀ k : Nat, k ≤ 4 → (PySem.Builtin.Int.intBits 8 : Int) * (k : Nat) ≤ 2 ^ 27
  | 0, _ => by decide
  | 1, _ => by decide
  | 2, _ => by decide
  | 3, _ => by decide
  | 4, _ => by decide
  | k + 5, h => by omega
noncomputable def stDeed : Stmt := nth bLaw 6
noncomputable def fK1 : FnS := ⟨["k"], ["number"], [], []⟩
noncomputable def fRest : FnS := ⟨["k"], ["room", "text", "whole"], [], ["len"]⟩
noncomputable def fRow : FnS := ⟨["j"], ["i", "sums"], [], []⟩
noncomputable def LIds.cs (i : LIds) : List Addr := [i.c0, i.c1, i.c2, i.c3, i.c4, i.c5, i.c6]
section
variable {C : Cx} {s : Shared} {A : Around} {n : Nat} {fs : List Env} {H : Addr → Option AO} {E : Value → Shared → Prop} {Q : Flow → Shared → Prop} {scr : Addr} {i : LIds} {names : List (List Nat)} {room : Int} {ds : DS} {rl : Addr} {xs : List AV} {sa : List Addr} {v3 v4 v5 v6 : Option AV} {y1 y2 y3 y4 y5 y6 y7 y8 y9 y10 y11 y12 y13 y14 y15 y16 : Option AV} {num : Int}
/-- number // a % b -/
theorem numdm {p1 p2 p3 p4 p5 : Pos} {ka kb : Nat} {a b : Int} {m : List (Option AV)} {Q : Value → Shared → Prop} (h : At fLaw C ⟨m, H⟩ s) (lf : LFr C A fs n i.cs) (hc : H i.c3 = some (.cell (some (.int num)))) (ha : 0 < a) (ha' : a < 1000000000) (hb : 0 < b)
    (q : ∀ v s', At fLaw C ⟨m, H⟩ s' → er v = .int (num / a % b) → Q v s') : Wp C.w A (eval (.BinOp (.BinOp (.Name "number" p1) .FloorDiv (.Constant (.int a) ka p2) p3) .Mod (.Constant (.int b) kb p4) p5) C.env) Q E s :=
  wp_binop (wp_binop (am_cell 3 h rfl (by rw [lf.ca]; rfl) hc fun v1 e1 => am_cint h fun v2 s₂ h₂ e2 => am_fdiv h₂ e1 e2 ha ha' fun v3 s₃ h₃ e3 => am_cint h₃ fun v4 s₄ h₄ e4 => am_mod h₄ e3 e4 hb q))
/-- the text of a deed -/
theorem deed_text (h : At fLaw C ⟨lm scr y1 y2 y3 y4 y5 y6 y7 y8 y9 y10 y11 y12 y13 y14 y15 y16, H⟩ s) (lf : LFr C A fs n i.cs) (L : LS i names room ds rl xs sa (some (.int num)) v4 v5 v6 H)
    (k : ∀ H' s', At fLaw C ⟨lm scr y1 y2 y3 y4 y5 y6 y7 y8 y9 y10 y11 y12 y13 y14 y15 y16, H'⟩ s' → LS i names room ds rl xs sa (some (.int num)) v4 (some (.str (dText num))) v6 H' → (∀ a ao, H a = some ao → a ≠ i.c5 → H' a = some ao) → Q .next s') :
    Wp C.w A (exec (nth (forB stDeed) 1) C.env) Q E s := by
  have hc3 := L.G.get 6 rfl
  refine wp_assign (wp_mcall (am_cstr h fun jv s₁ h₁ ej => am_mjoin (wp_bargs (wp_sp (am_lcomp (F' := fK1) ["number"] [i.c3] h₁.env (by kernel_rfl!) (.cons 3 rfl (by rw [lf.ca]; rfl) .nil) (wp_callx (am_bltn (v := .type "range") 1 h₁ rfl (by kernel_rfl!) (by kernel_rfl!) (by decide) (wp_targs (wp_sp (numdm h₁ lf hc3 (by decide) (by decide) (by decide) fun nv s₂ h₂ en => wp_sp0 ?_)))))))) ej))
  have hcnt : (num / 8 % 5) = (((num / 8 % 5).toNat : Nat) : Int) := by omega
  have hc4 : (num / 8 % 5).toNat ≤ 4 := by omega
  rw [hcnt] at en
  unfold dText at k
  generalize (num / 8 % 5).toNat = cnt at en hc4 k
  refine am_range1 h₂ en fun Dr s₅ t u w hDr h₅ => am_iter_range h₅ (hput_self _ _ _) (small_of (by omega) (by omega) (by omega) (by omega) (.inl rfl)) fun it s₆ hit h₆ => ?_
  have hDr : H Dr = none := hDr
  have kp1 : Kp H (hput H Dr (.raw (rngObj 0 (cnt : Nat) 1 t u w))) := (Kp.refl H).new hDr
  have it0 : H it = none := kp1.no hit
  have kp2 := kp1.new (o := .it (.range 0 (Builtin.Range.rangeSize 0 (cnt : Nat) 1) 1)) hit
  have h₆ : At fLaw C ⟨lm scr y1 y2 y3 y4 y5 y6 y7 y8 y9 y10 y11 y12 y13 y14 y15 y16, hput (hput H Dr (.raw (rngObj 0 (cnt : Nat) 1 t u w))) it (.it (.range 0 (Builtin.Range.rangeSize 0 (cnt : Nat) 1) 1))⟩ s₆ := h₆
  have hi2 : hput (hput H Dr (.raw (rngObj 0 (cnt : Nat) 1 t u w))) it (.it (.range 0 (Builtin.Range.rangeSize 0 (cnt : Nat) 1) 1)) it = some (.it (.range 0 (Builtin.Range.rangeSize 0 (cnt : Nat) 1) 1)) := hput_self _ _ _
  generalize hput (hput H Dr (.raw (rngObj 0 (cnt : Nat) 1 t u w))) it (.it (.range 0 (Builtin.Range.rangeSize 0 (cnt : Nat) 1) 1)) = H2 at h₆ hi2 kp2
  refine comp_range cnt (fun j xs _ => xs = (((List.range j).map (dSign num)).map fun c => [c]).map AV.str ∧ j ≤ cnt) h₆ lf.hr hi2 rfl (by kernel_rfl!) (fun _ _ _ _ h _ => h) (fun _ => ⟨rfl, Nat.zero_le _⟩) (fun j xs _ e => by rw [e.1]; simp; omega) (fun j C' H' D xs s' hj hw hca b hD hd ho hi h' => ?_) fun D H3 xs b hD hd ho s₇ h₇ => ?_
  · have q0 : C'.ca[0]? = some i.c3 := by rw [hca]; rfl
    have kk : ∀ {a ao}, H a = some ao → H' a = some ao := fun {a ao} e => b a ao (fun z => by rw [List.mem_singleton.mp z, it0] at e; cases e) (kp2 a ao e)
    obtain ⟨p1, p2⟩ := pow8 j (by omega)
    refine wp_tests0 ?_
    rw [if_pos rfl]
    refine wp_sub (am_cstr h' fun av s₁ h₁ ea => wp_binop (wp_binop (wp_binop (am_cell 0 h₁ rfl q0 (kk hc3) fun v1 e1 => am_cint h₁ fun v2 s₂ h₂ e2 => am_fdiv h₂ e1 e2 (by decide) (by decide) fun v3 s₃ h₃ e3 => wp_binop (am_cint h₃ fun v4 s₄ h₄ e4 => am_local 0 h₄ rfl rfl fun v5 e5 => am_pow h₄ e4 e5 (by omega) (bits8 j (by omega)) fun v6 s₆ h₆ e6 => am_fdiv h₆ e3 e6 p1 p2 fun v7 s₇ h₇ e7 => am_cint h₇ fun v8 s₈ h₈ e8 => am_mod h₈ e7 e8 (by decide) fun v9 s₉ h₉ e9 => ?_)))))
    have hx : ((Str.ofString "ab \t\r\n\"\\").cps.toList)[(num / 40 / 8 ^ (j : Int).toNat % 8).toNat]? = some (dSign num j) := by
      show alphaL[(num / 40 / 8 ^ j % 8).toNat]? = _
      unfold dSign
      rw [List.getD_eq_getElem?_getD]
      have : (num / 40 / 8 ^ j % 8).toNat < alphaL.length := by
        have : alphaL.length = 8 := rfl
        omega
      rw [List.getElem?_eq_getElem this]; rfl
    refine am_sitem h₉ ea e9 (by omega) (by omega) hx fun v10 s₁₀ h₁₀ e10 => ⟨H', fun _ _ e => e, h₁₀, ?_, by omega⟩
    rw [ho.1, e10, List.range_succ]; simp
  · have kp3 : Kp H H3 := fun a ao e => b a ao (fun z => by rw [List.mem_singleton.mp z, it0] at e; cases e) (kp2 a ao e)
    have L3 := L.kp kp3
    have e1 : (((List.range cnt).map (dSign num)).map fun c => [c]).flatten = (List.range cnt).map (dSign num) := by
      induction (List.range cnt).map (dSign num) with
      | nil => rfl
      | cons c r ih => rw [List.map_cons, List.flatten_cons, ih]; rfl
    refine wp_sp0 (am_join (xs := ((List.range cnt).map (dSign num)).map fun c => [c]) h₇ (by rw [← ho.1]; exact hd) ej (by rw [e1]; simp; omega) fun tv s₈ h₈ et => am_storecell 5 h₈ rfl (by rw [lf.ca]; rfl) (L3.G.get 8 rfl) fun s₉ h₉ => ?_)
    rw [et, e1] at h₉
    exact k _ s₉ h₉ (L3.put5 _) fun a ao e ne => put_keep (kp3 a ao e) ne
end
end Mine

end
section
open PySem PySem.W PyProof.Rows PySem.Calls PyProof.Rows.LCg
set_option linter.unusedVariables false
namespace Mine
section
variable {C : Cx} {s : Shared} {A : Around} {n : Nat} {fs : List Env} {H : Addr → Option AO} {E : Value → Shared → Prop} {Q : Flow → Shared → Prop} {scr : Addr} {i : LIds} {names : List (List Nat)} {room : Int} {ds : DS} {rl : Addr} {xs : List AV} {sa : List Addr} {v3 v4 v5 v6 : Option AV} {y1 y2 y3 y4 y5 y6 y7 y8 y9 y10 y11 y12 y13 y14 y15 y16 : Option AV} {num : Int} {ai : Nat} {text : List Nat}
/-- the rests of a deed -/
theorem deed_rests (h : At fLaw C ⟨lm scr y1 y2 y3 (some (.ref rl)) y5 y6 y7 y8 y9 y10 y11 y12 y13 y14 y15 y16, H⟩ s) (lf : LFr C A fs n i.cs) (L : LS i names room ds rl xs sa v3 v4 (some (.str text)) v6 H) (hr : 0 < room) (ht : text.length ≤ 1000) (hw : ds.whole.length ≤ 1000) (hre : ds.rests.length ≤ 1000)
    (k : ∀ rl' H' s', At fLaw C ⟨lm scr y1 y2 y3 (some (.ref rl')) y5 y6 y7 y8 y9 y10 y11 y12 y13 y14 y15 y16, H'⟩ s' → LS i names room { ds with rests := ds.rests ++ restsOf ds.whole.length text room } rl' xs sa v3 v4 (some (.str text)) v6 H' → Kp H H' → H rl' = none → Q .next s') :
    Wp C.w A (exec (nth (forB stDeed) 6) C.env) Q E s := by
  have hc0 := L.G.get 3 rfl
  have hc1 := L.G.get 4 rfl
  have hc5 := L.G.get 8 rfl
  have ca0 : C.ca[0]? = some i.c0 := by rw [lf.ca]; rfl
  have ca1 : C.ca[1]? = some i.c1 := by rw [lf.ca]; rfl
  have ca5 : C.ca[5]? = some i.c5 := by rw [lf.ca]; rfl
  refine wp_assign (wp_binop (am_local 4 h rfl rfl fun v e => ?_))
  cases er_ref e
  refine am_lcomp (F' := fRest) ["room", "text", "whole"] [i.c0, i.c5, i.c1] h.env (by kernel_rfl!) (.cons 0 rfl ca0 (.cons 5 rfl ca5 (.cons 1 rfl ca1 .nil))) (wp_callx (am_bltn (v := .type "range") 1 h rfl (by kernel_rfl!) (by kernel_rfl!) (by decide) (wp_targs (wp_sp (wp_callx (am_bltn (v := .builtin "len") 0 h rfl (by kernel_rfl!) (by kernel_rfl!) (by decide) (wp_bargs (wp_sp (am_cell 5 h rfl ca5 hc5 fun v e => wp_sp0 (am_slen h e (by omega) fun nv s₂ h₂ en => wp_sp0 ?_))))))))))
  refine am_range1 h₂ en fun Dr s₅ t u w hDr h₅ => am_iter_range h₅ (hput_self _ _ _) (small_of (by omega) (by omega) (by omega) (by omega) (.inl rfl)) fun it s₆ hit h₆ => ?_
  have hDr : H Dr = none := hDr
  have kp1 : Kp H (hput H Dr (.raw (rngObj 0 (text.length : Nat) 1 t u w))) := (Kp.refl H).new hDr
  have it0 : H it = none := kp1.no hit
  have kp2 := kp1.new (o := .it (.range 0 (Builtin.Range.rangeSize 0 (text.length : Nat) 1) 1)) hit
  have h₆ : At fLaw C ⟨lm scr y1 y2 y3 (some (.ref rl)) y5 y6 y7 y8 y9 y10 y11 y12 y13 y14 y15 y16, hput (hput H Dr (.raw (rngObj 0 (text.length : Nat) 1 t u w))) it (.it (.range 0 (Builtin.Range.rangeSize 0 (text.length : Nat) 1) 1))⟩ s₆ := h₆
  have hi2 : hput (hput H Dr (.raw (rngObj 0 (text.length : Nat) 1 t u w))) it (.it (.range 0 (Builtin.Range.rangeSize 0 (text.length : Nat) 1) 1)) it = some (.it (.range 0 (Builtin.Range.rangeSize 0 (text.length : Nat) 1) 1)) := hput_self _ _ _
  generalize hput (hput H Dr (.raw (rngObj 0 (text.length : Nat) 1 t u w))) it (.it (.range 0 (Builtin.Range.rangeSize 0 (text.length : Nat) 1) 1)) = H2 at h₆ hi2 kp2
  refine comp_range text.length (fun j xs _ => xs = (((List.range j).filter fun (k : Nat) => decide ((ds.whole.length : Int) + (k : Int) > 0) && (((ds.whole.length : Int) + (k : Int)) % room == 0)).map fun k => text.drop k).map AV.str ∧ j ≤ text.length) h₆ lf.hr hi2 rfl (by kernel_rfl!) (fun _ _ _ _ h _ => h) (fun _ => ⟨rfl, Nat.zero_le _⟩) (fun j xs _ e => ?_) (fun j C' H' D xs s' hj hw' hca b hD hd ho hi h' => ?_) fun D H3 xs b hD hd ho s₇ h₇ => ?_
  · rw [e.1, List.length_map, List.length_map]
    exact Nat.le_trans (List.length_filter_le _ _) (by simp; omega)
  · have q0 : C'.ca[0]? = some i.c0 := by rw [hca]; rfl
    have q1 : C'.ca[1]? = some i.c5 := by rw [hca]; rfl
    have q2 : C'.ca[2]? = some i.c1 := by rw [hca]; rfl
    have kk : ∀ {a ao}, H a = some ao → H' a = some ao := fun {a ao} e => b a ao (fun z => by rw [List.mem_singleton.mp z, it0] at e; cases e) (kp2 a ao e)
    have os : ∀ (p : Nat → Bool), (((List.range (j + 1)).filter p).map fun k => text.drop k) = if p j = true then ((List.range j).filter p).map (fun k => text.drop k) ++ [text.drop j] else ((List.range j).filter p).map fun k => text.drop k := fun p => by
      rw [List.range_succ, List.filter_append, List.map_append]
      cases hq : p j <;> simp [hq]
    refine wp_tests1 (wp_tand (wp_tcmp (wp_binop (wp_callx (am_bltn (v := .builtin "len") 0 h' rfl (by kernel_rfl!) (by kernel_rfl!) (by decide) (wp_bargs (wp_sp (am_cell 2 h' rfl q2 (kk hc1) fun v e => wp_sp0 (am_slen h' e (by omega) fun v1 s₁ h₁ e1 => am_local 0 h₁ rfl rfl fun v2 e2 => am_add h₁ e1 e2 fun v3 s₃ h₃ e3 => am_cint h₃ fun v4 s₄ h₄ e4 => am_gt e3 e4 (am_truthy_bool ?_))))))))))
    by_cases hp1 : (ds.whole.length : Int) + (j : Int) > 0
    · rw [if_pos (decide_eq_true hp1)]
      refine wp_tand (wp_tcmp (wp_binop (wp_binop (wp_callx (am_bltn (v := .builtin "len") 0 h₄ rfl (by kernel_rfl!) (by kernel_rfl!) (by decide) (wp_bargs (wp_sp (am_cell 2 h₄ rfl q2 (kk hc1) fun v e => wp_sp0 (am_slen h₄ e (by omega) fun v1 s₁ h₁ e1 => am_local 0 h₁ rfl rfl fun v2 e2 => am_add h₁ e1 e2 fun v3 s₃ h₃ e3 => am_cell 0 h₃ rfl q0 (kk hc0) fun v5 e5 => am_mod h₃ e3 e5 hr fun v6 s₆ h₆ e6 => am_cint h₆ fun v7 s₇ h₇ e7 => am_eq e6 e7 (am_truthy_bool ?_))))))))))
      by_cases hp2 : (((ds.whole.length : Int) + (j : Int)) % room == 0) = true
      · rw [if_pos hp2]
        refine wp_tand0 ?_
        rw [if_pos rfl]
        refine wp_sub (am_cell 1 h₇ rfl q1 (kk hc5) fun v8 e8 => wp_slice (wp_psome (am_local 0 h₇ rfl rfl fun v9 e9 => wp_pnone (wp_pnone ?_))))
        refine am_sslice (li := some (j : Int)) (ui := none) h₇ e8 e9 rfl (by omega) fun v10 s₁₀ h₁₀ e10 => ⟨H', fun _ _ e => e, h₁₀, ?_, by omega⟩
        have cut : (text.drop (loOf (some (j : Int)) text.length)).take (hiOf none text.length - loOf (some (j : Int)) text.length) = text.drop j := by
          have e1 : loOf (some (j : Int)) text.length = j := loOf_ge (by omega)
          rw [e1, show hiOf none text.length = text.length from rfl]
          exact List.take_of_length_le (by rw [List.length_drop]; omega)
        rw [ho.1, e10, cut, os, if_pos (by rw [hp2, decide_eq_true hp1]; rfl), List.map_append]
        rfl
      · rw [if_neg hp2, if_neg (by decide)]
        refine ⟨H', fun _ _ e => e, h₇, ?_, by omega⟩
        rw [ho.1, os, if_neg (by rw [Bool.not_eq_true] at hp2; rw [hp2]; simp)]
    · rw [if_neg (by rw [decide_eq_false hp1]; decide), if_neg (by decide)]
      refine ⟨H', fun _ _ e => e, h₄, ?_, by omega⟩
      rw [ho.1, os, if_neg (by rw [decide_eq_false hp1]; simp)]
  · have kp3 : Kp H H3 := fun a ao e => b a ao (fun z => by rw [List.mem_singleton.mp z, it0] at e; cases e) (kp2 a ao e)
    have L3 := L.kp kp3
    have hd : H3 D = some (.list ((restsOf ds.whole.length text room).map AV.str)) := by rw [show (restsOf ds.whole.length text room).map AV.str = xs from ho.1.symm]; exact hd
    have hrl : (restsOf ds.whole.length text room).length ≤ 1000 := by
      unfold restsOf; rw [List.length_map]
      exact Nat.le_trans (List.length_filter_le _ _) (by simp; omega)
    refine am_ladd h₇ (L3.G.get 0 rfl) hd (by simp; omega) fun rl' s₈ hrl' h₈ => am_store 4 h₈ rfl fun s₉ h₉ => ?_
    have hrl0 : H3 rl' = none := hrl'
    have e1 : ds.rests.map AV.str ++ (restsOf ds.whole.length text room).map AV.str = (ds.rests ++ restsOf ds.whole.length text room).map AV.str := by rw [List.map_append]
    have h₉ : At fLaw C ⟨lm scr y1 y2 y3 (some (.ref rl')) y5 y6 y7 y8 y9 y10 y11 y12 y13 y14 y15 y16, hput H3 rl' (.list (ds.rests.map AV.str ++ (restsOf ds.whole.length text room).map AV.str))⟩ s₉ := h₉
    rw [e1] at h₉
    have L4 := (L3.kp ((Kp.refl H3).new (o := .list ((ds.rests ++ restsOf ds.whole.length text room).map AV.str)) hrl0)).rest (hput_self _ _ _) fun z => L3.known _ z hrl0
    exact k rl' _ s₉ h₉ L4 (kp3.new hrl0) (kp3.no hrl0)
theorem nextRow_eq (N ai : Nat) (row : List Int) (j : Nat) : ((List.range (j + 1)).map fun j => row.getD j 0 + if (ai : Int) ≤ (j : Int) then 1 else 0) = ((List.range j).map fun j => row.getD j 0 + if (ai : Int) ≤ (j : Int) then 1 else 0) ++ [row.getD j 0 + if (ai : Int) ≤ (j : Int) then 1 else 0] := by
  rw [List.range_succ, List.map_append]; rfl
/-- one row more -/
theorem deed_row {row : List Int} {E : Value → Shared → Prop} (h : At fLaw C ⟨lm scr y1 (some (.ref i.nl)) y3 y4 y5 y6 y7 y8 y9 y10 y11 y12 y13 y14 y15 y16, H⟩ s) (lf : LFr C A fs n i.cs) (L : LS i names room ds rl xs sa v3 (some (.int ai)) v5 v6 H) (hn : names.length ≤ 8) (hlast : ds.sums.getLast? = some row) (hrow : row.length = names.length) (hs : ds.sums.length ≤ 1000)
    (k : ∀ a H' s', At fLaw C ⟨lm scr y1 (some (.ref i.nl)) y3 y4 y5 y6 y7 y8 y9 y10 y11 y12 y13 y14 y15 y16, H'⟩ s' → LS i names room { ds with sums := ds.sums ++ [nextRow names.length ai row] } rl (xs ++ [.ref a]) (a :: sa) v3 (some (.int ai)) v5 v6 H' → (∀ b ao, H b = some ao → b ≠ i.sl → H' b = some ao) → H a = none → Q .next s') :
    Wp C.w A (execs (forB (nth (forB stDeed) 7)) C.env) Q E s := by
  have hc2 := L.G.get 5 rfl
  have hc4 := L.G.get 7 rfl
  have hsl := L.G.get 1 rfl
  have hnl := L.G.get 2 rfl
  have ca2 : C.ca[2]? = some i.c2 := by rw [lf.ca]; rfl
  have ca4 : C.ca[4]? = some i.c4 := by rw [lf.ca]; rfl
  have hxl : xs.length = ds.sums.length := L.S.1
  obtain ⟨la, hla1, hla2, hla3⟩ := L.S.2 (ds.sums.length - 1) row (by rw [List.getLast?_eq_getElem?] at hlast; exact hlast)
  have hxlast : xs.getLast? = some (.ref la) := by rw [List.getLast?_eq_getElem?, hxl]; exact hla1
  refine wp_cons (wp_expr (wp_mcall (am_cell 2 h rfl ca2 hc2 fun v e => ?_)) h.notInt)
  cases er_ref e
  refine am_mappend h hsl (wp_bargs (wp_sp (am_lcomp (F' := fRow) ["i", "sums"] [i.c4, i.c2] h.env (by kernel_rfl!) (.cons 4 rfl ca4 (.cons 2 rfl ca2 .nil)) (wp_callx (am_bltn (v := .type "range") 1 h rfl (by kernel_rfl!) (by kernel_rfl!) (by decide) (wp_targs (wp_sp (wp_callx (am_bltn (v := .builtin "len") 0 h rfl (by kernel_rfl!) (by kernel_rfl!) (by decide) (wp_bargs (wp_sp (am_local 2 h rfl rfl fun v e => ?_))))))))))))
  cases er_ref e
  refine wp_sp0 (am_len h hnl (by simp; omega) fun nv s₂ h₂ en => wp_sp0 (am_range1 h₂ en fun Dr s₅ t u w hDr h₅ => am_iter_range h₅ (hput_self _ _ _) (small_of (by omega) (by omega) (by rw [List.length_map]; omega) (by rw [List.length_map]; omega) (.inl rfl)) fun it s₆ hit h₆ => ?_))
  have hDr : H Dr = none := hDr
  have kp1 : Kp H (hput H Dr (.raw (rngObj 0 ((names.map AV.str).length : Nat) 1 t u w))) := (Kp.refl H).new hDr
  have it0 : H it = none := kp1.no hit
  have kp2 := kp1.new (o := .it (.range 0 (Builtin.Range.rangeSize 0 ((names.map AV.str).length : Nat) 1) 1)) hit
  have h₆ : At fLaw C ⟨lm scr y1 (some (.ref i.nl)) y3 y4 y5 y6 y7 y8 y9 y10 y11 y12 y13 y14 y15 y16, hput (hput H Dr (.raw (rngObj 0 ((names.map AV.str).length : Nat) 1 t u w))) it (.it (.range 0 (Builtin.Range.rangeSize 0 ((names.map AV.str).length : Nat) 1) 1))⟩ s₆ := h₆
  have hi2 : hput (hput H Dr (.raw (rngObj 0 ((names.map AV.str).length : Nat) 1 t u w))) it (.it (.range 0 (Builtin.Range.rangeSize 0 ((names.map AV.str).length : Nat) 1) 1)) it = some (.it (.range 0 (Builtin.Range.rangeSize 0 ((names.map AV.str).length : Nat) 1) 1)) := hput_self _ _ _
  generalize hput (hput H Dr (.raw (rngObj 0 ((names.map AV.str).length : Nat) 1 t u w))) it (.it (.range 0 (Builtin.Range.rangeSize 0 ((names.map AV.str).length : Nat) 1) 1)) = H2 at h₆ hi2 kp2
  rw [List.length_map] at hi2
  refine comp_range names.length (fun j xs _ => xs = ((List.range j).map fun j => row.getD j 0 + if (ai : Int) ≤ (j : Int) then 1 else 0).map AV.int ∧ j ≤ names.length) h₆ lf.hr hi2 rfl (by kernel_rfl!) (fun _ _ _ _ h _ => h) (fun _ => ⟨rfl, Nat.zero_le _⟩) (fun j xs _ e => by rw [e.1]; simp; omega) (fun j C' H' D xs' s' hj hw' hca b hD hd ho hi h' => ?_) fun D H3 xs' b hD hd ho s₇ h₇ => ?_
  · have q0 : C'.ca[0]? = some i.c4 := by rw [hca]; rfl
    have q1 : C'.ca[1]? = some i.c2 := by rw [hca]; rfl
    have kk : ∀ {a ao}, H a = some ao → H' a = some ao := fun {a ao} e => b a ao (fun z => by rw [List.mem_singleton.mp z, it0] at e; cases e) (kp2 a ao e)
    refine wp_tests0 ?_
    rw [if_pos rfl]
    refine wp_binop (wp_sub (wp_sub (am_cell 1 h' rfl q1 (kk hc2) fun v e => ?_)))
    cases er_ref e
    refine wp_unop (am_cint h' fun v1 s₁ h₁ e1 => am_neg h₁ e1 fun v2 s₂ h₂ e2 => am_lneg1 h₂ (kk hsl) e2 hxlast fun v3 e3 => ?_)
    cases er_ref e3
    have hx : (row.map AV.int)[(j : Int).toNat]? = some (.int (row.getD j 0)) := by
      show (row.map AV.int)[j]? = _
      rw [List.getElem?_map, List.getElem?_eq_getElem (by omega), List.getD_eq_getElem?_getD, List.getElem?_eq_getElem (by omega)]; rfl
    refine am_local 0 h₂ rfl rfl fun v4 e4 => am_tailitem h₂ (.inl (kk hla3)) e4 (by omega) hx (by omega) fun v5 e5 => wp_ifexp (wp_tcmp (am_cell 0 h₂ rfl q0 (kk hc4) fun v6 e6 => am_local 0 h₂ rfl rfl fun v7 e7 => am_le e6 e7 (am_truthy_bool ?_)))
    by_cases hle : (ai : Int) ≤ (j : Int)
    · rw [if_pos (decide_eq_true hle)]
      refine am_cint h₂ fun v8 s₈ h₈ e8 => am_add h₈ e5 e8 fun v9 s₉ h₉ e9 => ⟨H', fun _ _ e => e, h₉, ?_, by omega⟩
      rw [ho.1, e9, nextRow_eq names.length, List.map_append, if_pos hle]; rfl
    · rw [if_neg (by rw [decide_eq_false hle]; decide)]
      refine am_cint h₂ fun v8 s₈ h₈ e8 => am_add h₈ e5 e8 fun v9 s₉ h₉ e9 => ⟨H', fun _ _ e => e, h₉, ?_, by omega⟩
      rw [ho.1, e9, nextRow_eq names.length, List.map_append, if_neg hle]; rfl
  · have kp3 : Kp H H3 := fun a ao e => b a ao (fun z => by rw [List.mem_singleton.mp z, it0] at e; cases e) (kp2 a ao e)
    have L3 := L.kp kp3
    have hD0 : H D = none := kp2.no hD
    have hd : H3 D = some (.list ((nextRow names.length ai row).map AV.int)) := by rw [show (nextRow names.length ai row).map AV.int = xs' from ho.1.symm]; exact hd
    refine wp_sp0 (am_append h₇ (L3.G.get 1 rfl) (by omega) fun s₈ h₈ => wp_nil ?_)
    exact k D _ s₈ h₈ (L3.row hd fun z => L.known _ z hD0) (fun b ao e ne => put_keep (kp3 b ao e) ne) hD0
end
end Mine

end
section
open PySem PySem.W PyProof.Rows PySem.Calls PyProof.Rows.LCg
set_option linter.unusedVariables false
namespace Mine
theorem addRows_succ (N ai : Nat) : ∀ (j : Nat) (ss : List (List Int)), addRows N ai (j + 1) ss = addRows N ai j ss ++ [nextRow N ai ((addRows N ai j ss).getLast?.getD [])]
  | 0, ss => rfl
  | j + 1, ss => by
    show addRows N ai (j + 1) (ss ++ [nextRow N ai (ss.getLast?.getD [])]) = _
    rw [addRows_succ N ai j]; rfl
theorem addRows_len (N ai : Nat) : ∀ (j : Nat) (ss : List (List Int)), (addRows N ai j ss).length = ss.length + j
  | 0, ss => rfl
  | j + 1, ss => by
    show (addRows N ai j (ss ++ _)).length = _
    rw [addRows_len N ai j]; simp; omega
noncomputable def SumsOk (N : Nat) (ss : List (List Int)) : Prop := ss ≠ [] ∧ ∀ r ∈ ss, r.length = N
theorem SumsOk.last {N : Nat} {ss : List (List Int)} (h : SumsOk N ss) : ∃ r, ss.getLast? = some r ∧ r.length = N := by
  have h1 := h.1
  refine ⟨ss.getLast h1, List.getLast?_eq_some_getLast h1, h.2 _ (List.getLast_mem h1)⟩
theorem SumsOk.add {N ai : Nat} : ∀ {j : Nat} {ss : List (List Int)}, SumsOk N ss → SumsOk N (addRows N ai j ss)
  | 0, _, h => h
  | j + 1, ss, h => SumsOk.add (j := j) (ss := ss ++ [nextRow N ai (ss.getLast?.getD [])]) ⟨by simp, fun r hr => by
      rcases List.mem_append.mp hr with hr | hr
      · exact h.2 r hr
      · rw [List.mem_singleton.mp hr]; unfold nextRow; simp⟩
/-- all but law's own cells and the list of rows lies as it lay -/
noncomputable def LB (i : LIds) (H H' : Addr → Option AO) : Prop := ∀ a ao, a ∉ [i.sl, i.c1, i.c3, i.c4, i.c5] → H a = some ao → H' a = some ao
theorem LB.trans {i : LIds} {H H' H'' : Addr → Option AO} (x : LB i H H') (y : LB i H' H'') : LB i H H'' := fun a ao n e => y a ao n (x a ao n e)
theorem Kp.lb {i : LIds} {H H' : Addr → Option AO} (x : Kp H H') : LB i H H' := fun a ao _ e => x a ao e
theorem LB.of {i : LIds} {H H' : Addr → Option AO} {c : Addr} (x : ∀ a ao, H a = some ao → a ≠ c → H' a = some ao) (h : c ∈ [i.sl, i.c1, i.c3, i.c4, i.c5]) : LB i H H' := fun a ao n e => x a ao e fun z => n (z ▸ h)
section
variable {C : Cx} {s : Shared} {A : Around} {n : Nat} {fs : List Env} {H : Addr → Option AO} {E : Value → Shared → Prop} {Q : Flow → Shared → Prop} {scr : Addr} {i : LIds} {names : List (List Nat)} {room : Int} {ds : DS} {rl : Addr} {xs : List AV} {sa : List Addr} {v3 v4 v5 v6 : Option AV} {y1 y2 y3 y4 y5 y6 y7 y8 y9 y10 y11 y12 y13 y14 y15 y16 : Option AV} {num : Int} {ai : Nat} {text : List Nat}
/-- the rows of a text's signs -/
theorem deed_rows (h : At fLaw C ⟨lm scr y1 (some (.ref i.nl)) y3 y4 y5 y6 y7 y8 y9 y10 y11 y12 y13 y14 y15 y16, H⟩ s) (lf : LFr C A fs n i.cs) (L : LS i names room ds rl xs sa v3 (some (.int ai)) (some (.str text)) v6 H) (hn : names.length ≤ 8) (ha : text.all (· < 128) = true) (ht : text.length ≤ 100) (ho : SumsOk names.length ds.sums) (hs : ds.sums.length ≤ 900)
    (k : ∀ xs' sa' y7' H' s', At fLaw C ⟨lm scr y1 (some (.ref i.nl)) y3 y4 y5 y6 y7' y8 y9 y10 y11 y12 y13 y14 y15 y16, H'⟩ s' → LS i names room { ds with sums := addRows names.length ai text.length ds.sums } rl xs' sa' v3 (some (.int ai)) (some (.str text)) v6 H' → LB i H H' → (∀ x ∈ sa', x ∈ sa ∨ H x = none) → Q .next s') :
    Wp C.w A (exec (nth (forB stDeed) 7) C.env) Q E s := by
  refine wp_for (am_cell 5 h rfl (by rw [lf.ca]; rfl) (L.G.get 8 rfl) fun tv et => am_iter_str h et ha fun it s₁ hit h₁ => ?_)
  have it0 : H it = none := hit
  have kp1 : Kp H (hput H it (.it (.str text 0))) := (Kp.refl H).new it0
  have nit : it ∉ [rl, i.sl, i.nl, i.c0, i.c1, i.c2, i.c3, i.c4, i.c5, i.c6, 140, 147] ++ sa := fun z => L.known _ z it0
  refine cd_str (F := fLaw) text (fun j σ => ∃ xs' sa' y7' H', σ = ⟨lm scr y1 (some (.ref i.nl)) y3 y4 y5 y6 y7' y8 y9 y10 y11 y12 y13 y14 y15 y16, H'⟩ ∧ LS i names room { ds with sums := addRows names.length ai j ds.sums } rl xs' sa' v3 (some (.int ai)) (some (.str text)) v6 H' ∧ LB i H H' ∧ (∀ x ∈ sa', x ∈ sa ∨ H x = none) ∧ it ∉ [rl, i.sl, i.nl, i.c0, i.c1, i.c2, i.c3, i.c4, i.c5, i.c6, 140, 147] ++ sa')
    lf.hr.hand (fun j σ kk hI => ?_) (fun j σ hI => ?_) (fun T j σ s v c tn tc tb tr hc hI h₂ hi ev => ?_) (fun σ s hI h₂ => ?_) ⟨xs, sa, y7, _, rfl, L.kp kp1, kp1.lb, fun x hx => .inl hx, nit⟩ (hput_self _ _ _) h₁
  · obtain ⟨xs', sa', y7', H', rfl, L', b, f, ni⟩ := hI
    exact ⟨xs', sa', y7', hput H' it (.it kk), rfl, L'.off ni (fun a ao ne e => put_keep e ne), (fun a ao na e => put_keep (b a ao na e) fun z => by rw [z, it0] at e; cases e), f, ni⟩
  · obtain ⟨xs', sa', y7', H', rfl, L', b, f, ni⟩ := hI
    refine ⟨xs', sa', y7', hdel H' it, rfl, L'.off ni (fun a ao ne e => by unfold hdel; rw [if_neg ne]; exact e), fun a ao na e => ?_, f, ni⟩
    unfold hdel; rw [if_neg fun z => by rw [z, it0] at e; cases e]; exact b a ao na e
  · obtain ⟨xs', sa', y7', H', rfl, L', b, f, ni⟩ := hI
    have hj : j < text.length := (List.getElem?_eq_some_iff.mp hc).1
    refine wp_asgn (am_store 7 h₂ rfl fun s₃ h₃ => ?_)
    have h₃ : At fLaw C ⟨lm scr y1 (some (.ref i.nl)) y3 y4 y5 y6 (some (er v)) y8 y9 y10 y11 y12 y13 y14 y15 y16, H'⟩ s₃ := h₃
    have so := SumsOk.add (ai := ai) (j := j) ho
    obtain ⟨row, hlast, hrow⟩ := so.last
    refine deed_row h₃ lf L' hn hlast hrow (by show (addRows _ _ _ _).length ≤ _; rw [addRows_len]; omega) fun a H'' s₄ h₄ L'' b' ha0 => tn _ _ ⟨xs' ++ [.ref a], a :: sa', _, _, rfl, ?_, b.trans (LB.of b' (by simp)), fun x hx => ?_, fun z => ?_⟩ ?_ h₄
    · rw [addRows_succ, hlast]; exact L''
    · rcases List.mem_cons.mp hx with rfl | hx
      · right
        cases z : H x with
        | none => rfl
        | some ao =>
          by_cases q : x ∈ [i.sl, i.c1, i.c3, i.c4, i.c5]
          · exfalso
            refine L'.known x (List.mem_append_left _ ?_) ha0
            simp only [List.mem_cons, List.not_mem_nil, or_false] at q ⊢
            rcases q with q | q | q | q | q <;> simp [q]
          · rw [b x ao q z] at ha0; cases ha0
      · exact f x hx
    · rcases List.mem_append.mp z with z | z
      · exact ni (List.mem_append_left _ z)
      · rcases List.mem_cons.mp z with z | z
        · have : H' it = some _ := hi
          rw [z, ha0] at this; cases this
        · exact ni (List.mem_append_right _ z)
    · refine b' it _ hi fun z => ni (List.mem_append_left _ ?_)
      rw [z]; simp
  · obtain ⟨xs', sa', y7', H', rfl, L', b, f, ni⟩ := hI
    exact k xs' sa' y7' H' s h₂ L' b f
end
end Mine

end
section
open PySem PySem.W PyProof.Rows PySem.Calls PyProof.Rows.LCg
set_option linter.unusedVariables false
namespace Mine
section
variable {C : Cx} {s : Shared} {A : Around} {n : Nat} {fs : List Env} {H : Addr → Option AO} {E : Value → Shared → Prop} {Q : Flow → Shared → Prop} {scr : Addr} {i : LIds} {names : List (List Nat)} {room : Int} {ds : DS} {rl : Addr} {xs : List AV} {sa : List Addr} {v3 v4 v5 v6 : Option AV} {y1 y2 y3 y4 y5 y6 y7 y8 y9 y10 y11 y12 y13 y14 y15 y16 : Option AV} {num : Int} {ai : Nat} {text : List Nat}
/-- a word is written onto the page -/
theorem deed_page {page ahead word white : List Nat} {manner : Int} {w1 w2 : Expr} {p1 p2 p3 p4 p5 p6 p7 : Pos} (h : At fLaw C ⟨lm scr y1 y2 (some (.str page)) y4 (some (.str white)) (some (.str ahead)) y7 y8 y9 y10 y11 y12 y13 y14 y15 y16, H⟩ s) (lf : LFr C A fs n i.cs) (hw : word.length ≤ 100) (hwh : white.length ≤ 100) (hah : ahead.length ≤ 100) (hpg : page.length ≤ 10000)
    (e1 : ∀ s (Q : Value → Shared → Prop), At fLaw C ⟨lm scr y1 y2 (some (.str page)) y4 (some (.str white)) (some (.str ahead)) y7 y8 y9 y10 y11 y12 y13 y14 y15 y16, H⟩ s → (∀ v s', At fLaw C ⟨lm scr y1 y2 (some (.str page)) y4 (some (.str white)) (some (.str ahead)) y7 y8 y9 y10 y11 y12 y13 y14 y15 y16, H⟩ s' → er v = .str word → Q v s') → Wp C.w A (eval w1 C.env) Q E s)
    (e2 : ∀ s (Q : Value → Shared → Prop), At fLaw C ⟨lm scr y1 y2 (some (.str page)) y4 (some (.str white)) (some (.str ahead)) y7 y8 y9 y10 y11 y12 y13 y14 y15 y16, H⟩ s → (∀ v s', At fLaw C ⟨lm scr y1 y2 (some (.str page)) y4 (some (.str white)) (some (.str ahead)) y7 y8 y9 y10 y11 y12 y13 y14 y15 y16, H⟩ s' → er v = .int manner → Q v s') → Wp C.w A (eval w2 C.env) Q E s)
    (k : ∀ s', At fLaw C ⟨lm scr y1 y2 (some (.str (page ++ (ahead ++ written word manner white)))) y4 (some (.str white)) (some (.str ahead)) y7 y8 y9 y10 y11 y12 y13 y14 y15 y16, H⟩ s' → Q .next s')
    (he1 : starEach (w1 :: [w2, .Name "white" p1]) C.env = (false, eval w1 C.env) :: starEach [w2, .Name "white" p1] C.env := by rfl) (he2 : starEach (w2 :: [.Name "white" p1]) C.env = (false, eval w2 C.env) :: starEach [.Name "white" p1] C.env := by rfl) (hpl : (backTo p4 (starEach [w2, .Name "white" p1] C.env)).any (·.1) = false := by rfl) :
    Wp C.w A (exec (.AugAssign (.Name "page" p6) .Add (.BinOp (.Name "ahead" p2) .Add (.Call (.Name "_law_written" p3) [w1, w2, .Name "white" p1] [] p4) p5) p7) C.env) Q E s := by
  have hwl := written_len word manner white
  refine wp_aug (am_ldlocal 3 h rfl rfl fun old eo => wp_binop (am_local 6 h rfl rfl fun av ea => wp_callx (am_glob (v := .ref 138) 2 h rfl (by kernel_rfl!) (wp_fnargs (wp_sp (e1 _ _ h fun wv s₁ h₁ ew => wp_sp (e2 _ _ h₁ fun mv s₂ h₂ em => wp_sp (am_local 5 h₂ rfl rfl fun tv et => wp_sp0 ⟨h₂.fnAt (by kernel_rfl!), wp_call ?_⟩)) he2) he1) he1 hpl))))
  refine written_spec (n := n) h₂ (lf.hr.cast (by omega)) ew em et hw hwh fun v s₃ h₃ ev => am_sadd h₃ ea ev (by omega) fun v2 s₄ h₄ e4 => am_isadd h₄ eo e4 (by rw [List.length_append]; omega) fun v3 s₅ h₅ e5 => am_store 3 h₅ rfl fun s₆ h₆ => ?_
  rw [e5] at h₆
  exact k s₆ h₆
end
end Mine

end
section
open PySem PySem.W PyProof.Rows PySem.Calls PyProof.Rows.LCg
set_option linter.unusedVariables false
namespace Mine
theorem dI_lt (N : Nat) (num : Int) (h : 0 < N) : dI N num < N := by
  have h1 := Int.emod_nonneg (num % 8) (show (N : Int) ≠ 0 by omega)
  have h2 := Int.emod_lt_of_pos (num % 8) (show (0 : Int) < (N : Int) by omega)
  unfold dI; omega
theorem dI_int (N : Nat) (num : Int) (h : 0 < N) : num % 8 % (N : Int) = ((dI N num : Nat) : Int) := by
  have h1 := Int.emod_nonneg (num % 8) (show (N : Int) ≠ 0 by omega)
  unfold dI; omega
theorem LS.page {i : LIds} {names : List (List Nat)} {room : Int} {ds : DS} {rl : Addr} {xs : List AV} {sa : List Addr} {v3 v4 v5 v6 : Option AV} {H : Addr → Option AO} (L : LS i names room ds rl xs sa v3 v4 v5 v6 H) (p : List Nat) : LS i names room { ds with page := p } rl xs sa v3 v4 v5 v6 H := ⟨L.G, L.S, L.ap, L.kn⟩
section
variable {C : Cx} {s : Shared} {A : Around} {n : Nat} {fs : List Env} {H : Addr → Option AO} {E : Value → Shared → Prop} {Q : Flow → Shared → Prop} {scr : Addr} {i : LIds} {names : List (List Nat)} {room : Int} {ds : DS} {rl : Addr} {xs : List AV} {sa : List Addr} {v3 v4 v5 v6 : Option AV} {y1 y2 y3 y4 y5 y6 y7 y8 y9 y10 y11 y12 y13 y14 y15 y16 : Option AV} {num : Int}
theorem deed_spec (h : At fLaw C ⟨lm scr y1 (some (.ref i.nl)) (some (.str ds.page)) (some (.ref rl)) y5 y6 y7 y8 y9 y10 y11 y12 y13 y14 y15 y16, H⟩ s) (lf : LFr C A fs n i.cs) (L : LS i names room ds rl xs sa (some (.int num)) v4 v5 v6 H) (hn : names.length ≤ 8) (hn0 : 0 < names.length) (hnl : ∀ x ∈ names, x.length ≤ 3) (hr : 0 < room)
    (ho : SumsOk names.length ds.sums) (hs : ds.sums.length ≤ 800) (hw : ds.whole.length ≤ 800) (hre : ds.rests.length ≤ 800) (hpg : ds.page.length ≤ 8000)
    (k : ∀ rl' xs' sa' y5' y6' y7' v4' v5' H' s', At fLaw C ⟨lm scr y1 (some (.ref i.nl)) (some (.str (deedStep names room num ds).page)) (some (.ref rl')) y5' y6' y7' y8 y9 y10 y11 y12 y13 y14 y15 y16, H'⟩ s' → LS i names room (deedStep names room num ds) rl' xs' sa' (some (.int num)) v4' v5' v6 H' → LB i H H' → (∀ x ∈ rl' :: sa', x ∈ rl :: sa ∨ H x = none) → Q .next s') :
    Wp C.w A (execs (forB stDeed) C.env) Q E s := by
  -- i
  refine wp_cons (wp_assign (wp_binop (wp_binop (am_cell 3 h rfl (by rw [lf.ca]; rfl) (L.G.get 6 rfl) fun v1 e1 => am_cint h fun v2 s₂ h₂ e2 => am_mod h₂ e1 e2 (by decide) fun v3 s₃ h₃ e3 => wp_callx (am_bltn (v := .builtin "len") 0 h₃ rfl (by kernel_rfl!) (by kernel_rfl!) (by decide) (wp_bargs (wp_sp (am_local 2 h₃ rfl rfl fun v e => ?_))))))))
  cases er_ref e
  refine wp_sp0 (am_len h₃ (L.G.get 2 rfl) (by simp; omega) fun v4 s₄ h₄ e4 => am_mod h₄ e3 e4 (by simp; omega) fun v5 s₅ h₅ e5 => am_storecell 4 h₅ rfl (by rw [lf.ca]; rfl) (L.G.get 7 rfl) fun s₆ h₆ => ?_)
  rw [List.length_map, dI_int _ _ hn0] at e5
  rw [e5] at h₆
  have L6 := L.put4 (some (.int (dI names.length num : Nat)))
  have b6 : LB i H (hput H i.c4 (.cell (some (.int (dI names.length num : Nat))))) := LB.of (c := i.c4) (fun a ao e ne => put_keep e ne) (by simp)
  have h₆ : At fLaw C ⟨lm scr y1 (some (.ref i.nl)) (some (.str ds.page)) (some (.ref rl)) y5 y6 y7 y8 y9 y10 y11 y12 y13 y14 y15 y16, hput H i.c4 (.cell (some (.int (dI names.length num : Nat))))⟩ s₆ := h₆
  have hi4 : hput H i.c4 (.cell (some (.int (dI names.length num : Nat)))) i.c4 = some (.cell (some (.int (dI names.length num : Nat)))) := hput_self _ _ _
  generalize hput H i.c4 (.cell (some (.int (dI names.length num : Nat)))) = H6 at h₆ L6 b6 hi4
  -- text
  refine wp_cons (deed_text h₆ lf L6 fun H7 s₇ h₇ L7 b7 => ?_)
  have bb7 := b6.trans (LB.of (c := i.c5) b7 (by simp))
  -- white
  have hwx : ((Str.ofString " \t\r\n").cps.toList)[(num / 2621440 % 4).toNat]? = some (whsL.getD (num / 2621440 % 4).toNat 0) := by
    show whsL[(num / 2621440 % 4).toNat]? = _
    rw [List.getD_eq_getElem?_getD]
    have : (num / 2621440 % 4).toNat < whsL.length := by
      have : whsL.length = 4 := rfl
      omega
    rw [List.getElem?_eq_getElem this]; rfl
  refine wp_cons (wp_assign (wp_sub (am_cstr h₇ fun wv s₈ h₈ ew => numdm h₈ lf (L7.G.get 6 rfl) (by decide) (by decide) (by decide) fun v2 s₉ h₉ e2 => am_sitem h₉ ew e2 (by omega) (by omega) hwx fun v3 s₁₀ h₁₀ e3 => am_store 5 h₁₀ rfl fun s₁₁ h₁₁ => ?_)))
  rw [e3] at h₁₁
  have h₁₁ : At fLaw C ⟨lm scr y1 (some (.ref i.nl)) (some (.str ds.page)) (some (.ref rl)) (some (.str (dWhite num))) y6 y7 y8 y9 y10 y11 y12 y13 y14 y15 y16, H7⟩ s₁₁ := h₁₁
  -- ahead
  refine wp_cons (wp_assign (wp_binop (am_local 5 h₁₁ rfl rfl fun av ea => numdm h₁₁ lf (L7.G.get 6 rfl) (by decide) (by decide) (by decide) fun v2 s₁₂ h₁₂ e2 => am_smul h₁₂ ea e2 (by omega) (by omega) (by rw [dWhite_len]; decide) fun v3 s₁₃ h₁₃ e3 => am_store 6 h₁₃ rfl fun s₁₄ h₁₄ => ?_)))
  rw [e3] at h₁₄
  have h₁₄ : At fLaw C ⟨lm scr y1 (some (.ref i.nl)) (some (.str ds.page)) (some (.ref rl)) (some (.str (dWhite num))) (some (.str (dAhead num))) y7 y8 y9 y10 y11 y12 y13 y14 y15 y16, H7⟩ s₁₄ := h₁₄
  have al := dAhead_len num
  have tl := dText_len num
  have ilt := dI_lt names.length num hn0
  have hx : (names.map AV.str)[((dI names.length num : Nat) : Int).toNat]? = some (.str (names.getD (dI names.length num) [])) := by
    show (names.map AV.str)[dI names.length num]? = _
    rw [List.getElem?_map, List.getD_eq_getElem?_getD, List.getElem?_eq_getElem ilt]; rfl
  have nlx : (names.getD (dI names.length num) []).length ≤ 3 := hnl _ (getD_mem ilt)
  have hc4 : H7 i.c4 = some (.cell (some (.int (dI names.length num : Nat)))) := L7.G.get 7 rfl
  -- the name, the text
  refine wp_cons (deed_page (word := names.getD (dI names.length num) []) (manner := num / 163840 % 4) h₁₄ lf (by omega) (by rw [dWhite_len]; decide) (by omega) (by omega) (fun s Q g q => wp_sub (am_local 2 g rfl rfl fun v e => ?_)) (fun s Q g q => numdm g lf (L7.G.get 6 rfl) (by decide) (by decide) (by decide) q) fun s₁₅ h₁₅ => ?_)
  · cases er_ref e
    exact am_cell 4 g rfl (by rw [lf.ca]; rfl) hc4 fun iv ei => am_tailitem g (.inl (L7.G.get 2 rfl)) ei (by omega) hx (by omega) fun v2 e2 => q v2 _ g e2
  have wl := written_len (names.getD (dI names.length num) []) (num / 163840 % 4) (dWhite num)
  have wl2 := written_len (dText num) (num / 655360 % 4) (dWhite num)
  rw [dWhite_len] at wl wl2
  refine wp_cons (deed_page (word := dText num) (manner := num / 655360 % 4) h₁₅ lf (by omega) (by rw [dWhite_len]; decide) (by omega) (by rw [List.length_append, List.length_append]; omega) (fun s Q g q => am_cell 5 g rfl (by rw [lf.ca]; rfl) (L7.G.get 8 rfl) fun v2 e2 => q v2 _ g e2) (fun s Q g q => numdm g lf (L7.G.get 6 rfl) (by decide) (by decide) (by decide) q) fun s₁₆ h₁₆ => ?_)
  -- rests
  refine wp_cons (deed_rests h₁₆ lf L7 hr (by omega) (by omega) (by omega) fun rl' H8 s₁₇ h₁₇ L8 kp8 hrl0 => ?_)
  have bb8 := bb7.trans (kp8.lb (i := i))
  -- the rows
  refine wp_cons (deed_rows h₁₇ lf L8 hn (dText_all num) (by omega) ho (by dsimp only; omega) fun xs' sa' y7' H9 s₁₈ h₁₈ L9 b9 f9 => ?_)
  -- whole
  refine wp_cons (wp_aug (am_ldcell 1 h₁₈ rfl (by rw [lf.ca]; rfl) (L9.G.get 4 rfl) fun ov eo => am_cell 5 h₁₈ rfl (by rw [lf.ca]; rfl) (L9.G.get 8 rfl) fun tv et => am_isadd h₁₈ eo et (by dsimp only; omega) fun rv s₁₉ h₁₉ er' => am_storecell 1 h₁₉ rfl (by rw [lf.ca]; rfl) (L9.G.get 4 rfl) fun s₂₀ h₂₀ => wp_nil ?_))
  rw [er'] at h₂₀
  refine k rl' xs' sa' _ _ y7' _ _ _ s₂₀ h₂₀ ((L9.put1 (ds.whole ++ dText num)).page _) ((bb8.trans b9).trans (LB.of (c := i.c1) (fun a ao e ne => put_keep e ne) (by simp))) fun x hx => ?_
  have nn7 : ∀ {x}, H7 x = none → H x = none := fun {x} e => by
    cases z : H x with
    | none => rfl
    | some ao =>
      exfalso
      by_cases q : x ∈ [i.sl, i.c1, i.c3, i.c4, i.c5]
      · refine L7.known x (List.mem_append_left _ ?_) e
        simp only [List.mem_cons, List.not_mem_nil, or_false] at q ⊢
        rcases q with q | q | q | q | q <;> simp [q]
      · rw [bb7 x ao q z] at e; cases e
  have nn : ∀ {x}, H8 x = none → H x = none := fun {x} e => by
    cases z : H x with
    | none => rfl
    | some ao =>
      exfalso
      by_cases q : x ∈ [i.sl, i.c1, i.c3, i.c4, i.c5]
      · refine L8.known x (List.mem_append_left _ ?_) e
        simp only [List.mem_cons, List.not_mem_nil, or_false] at q ⊢
        rcases q with q | q | q | q | q <;> simp [q]
      · rw [bb8 x ao q z] at e; cases e
  rcases List.mem_cons.mp hx with rfl | hx
  · exact .inr (nn7 hrl0)
  · rcases f9 x hx with h | h
    · exact .inl (.tail _ h)
    · exact .inr (nn h)
end
end Mine

end
section
open PySem PySem.W PyProof.Rows PySem.Calls PyProof.Rows.LCg
set_option linter.unusedVariables false
namespace Mine
noncomputable def ds0 (names : List (List Nat)) : DS := ⟨[], [], [], [names.map fun _ => (0 : Int)]⟩
noncomputable def buildL (names : List (List Nat)) (room : Int) (nums : List Int) : DS := nums.foldl (fun ds num => deedStep names room num ds) (ds0 names)
/-- bounds behind j deeds -/
structure DSok (N j : Nat) (ds : DS) : Prop where
  so : SumsOk N ds.sums
  sl : ds.sums.length ≤ 1 + 4 * j
  wl : ds.whole.length ≤ 4 * j
  rl : ds.rests.length ≤ 4 * j
  pl : ds.page.length ≤ 30 * j
theorem restsOf_len (w : Nat) (text : List Nat) (room : Int) : (restsOf w text room).length ≤ text.length := by
  unfold restsOf; rw [List.length_map]
  exact Nat.le_trans (List.length_filter_le _ _) (by simp)
theorem DSok.step {names : List (List Nat)} {room : Int} {num : Int} {ds : DS} {j : Nat} (h : DSok names.length j ds) (hn0 : 0 < names.length) (hnl : ∀ x ∈ names, x.length ≤ 3) : DSok names.length (j + 1) (deedStep names room num ds) := by
  have tl := dText_len num
  have al := dAhead_len num
  have nlx : (names.getD (dI names.length num) []).length ≤ 3 := hnl _ (getD_mem (dI_lt _ _ hn0))
  have wl := written_len (names.getD (dI names.length num) []) (num / 163840 % 4) (dWhite num)
  have wl2 := written_len (dText num) (num / 655360 % 4) (dWhite num)
  rw [dWhite_len] at wl wl2
  have rl := restsOf_len ds.whole.length (dText num) room
  obtain ⟨a, b, c, d, e⟩ := h
  refine ⟨a.add, ?_, ?_, ?_, ?_⟩
  · show (addRows _ _ _ _).length ≤ _; rw [addRows_len]; omega
  · show (ds.whole ++ _).length ≤ _; rw [List.length_append]; omega
  · show (ds.rests ++ _).length ≤ _; rw [List.length_append]; omega
  · show ((ds.page ++ (_ ++ _)) ++ (_ ++ _)).length ≤ _
    simp only [List.length_append]; omega
theorem DSok.fold {names : List (List Nat)} {room : Int} (hn0 : 0 < names.length) (hnl : ∀ x ∈ names, x.length ≤ 3) : ∀ (nums : List Int) {ds : DS} {j : Nat}, DSok names.length j ds → DSok names.length (j + nums.length) (nums.foldl (fun ds num => deedStep names room num ds) ds)
  | [], ds, j, h => h
  | num :: nums, ds, j, h => by
    have := DSok.fold (room := room) hn0 hnl nums (h.step (room := room) (num := num) hn0 hnl)
    rw [List.foldl_cons, List.length_cons, show j + (nums.length + 1) = j + 1 + nums.length by omega]
    exact this
theorem DSok.start (names : List (List Nat)) : DSok names.length 0 (ds0 names) := ⟨⟨by simp [ds0], fun r hr => by rw [List.mem_singleton.mp hr]; simp⟩, by simp [ds0], by simp [ds0], by simp [ds0], by simp [ds0]⟩
section
variable {C : Cx} {s : Shared} {A : Around} {n : Nat} {fs : List Env} {H : Addr → Option AO} {E : Value → Shared → Prop} {Q : Flow → Shared → Prop} {scr : Addr} {i : LIds} {names : List (List Nat)} {room : Int} {rl dl : Addr} {xs : List AV} {sa : List Addr} {D : List Int}
theorem deeds_spec (h : At fLaw C ⟨lm scr (some (.ref dl)) (some (.ref i.nl)) (some (.str [])) (some (.ref rl)) none none none none none none none none none none none none, H⟩ s) (lf : LFr C A fs n i.cs) (L : LS i names room (ds0 names) rl xs sa none none none none H) (hdl : H dl = some (.list (D.map AV.int))) (hdsl : dl ≠ i.sl) (hD : D.length = 6)
    (hn : names.length ≤ 8) (hn0 : 0 < names.length) (hnl : ∀ x ∈ names, x.length ≤ 3) (hr : 0 < room)
    (k : ∀ rl' xs' sa' y5 y6 y7 v3 v4 v5 H' s', At fLaw C ⟨lm scr (some (.ref dl)) (some (.ref i.nl)) (some (.str (buildL names room (D.drop 1)).page)) (some (.ref rl')) y5 y6 y7 none none none none none none none none none, H'⟩ s' → LS i names room (buildL names room (D.drop 1)) rl' xs' sa' v3 v4 v5 none H' → H' dl = some (.list (D.map AV.int)) → Q .next s') :
    Wp C.w A (exec stDeed C.env) Q E s := by
  refine wp_for (wp_sub (am_local 1 h rfl rfl fun v e => ?_))
  cases er_ref e
  refine wp_slice (wp_psome (am_cint h fun ov s₁ h₁ eo => wp_pnone (wp_pnone ?_)))
  refine am_lslice (li := some 1) (ui := none) h₁ hdl eo rfl (by simp; omega) fun l1 s₂ hl1 h₂ => am_iter_list h₂ (hput_self _ _ _) fun it s₃ hit h₃ => ?_
  have hl10 : H l1 = none := hl1
  have cut : ((D.map AV.int).drop (loOf (some 1) (D.map AV.int).length)).take (hiOf none (D.map AV.int).length - loOf (some 1) (D.map AV.int).length) = (D.drop 1).map AV.int := by
    have e1 : loOf (some 1) (D.map AV.int).length = 1 := by
      have : (D.map AV.int).length = 6 := by rw [List.length_map]; exact hD
      unfold loOf; dsimp only; rw [if_neg (by omega), this]; decide
    rw [e1, show hiOf none (D.map AV.int).length = (D.map AV.int).length from rfl, List.map_drop]
    exact List.take_of_length_le (by rw [List.length_drop]; omega)
  rw [cut] at h₃ hit
  have kp1 : Kp H (hput H l1 (.list ((D.drop 1).map AV.int))) := (Kp.refl H).new hl10
  have it0 : H it = none := kp1.no hit
  have kp2 := kp1.new (o := .it (.list l1 0)) hit
  have g1 : hput (hput H l1 (.list ((D.drop 1).map AV.int))) it (.it (.list l1 0)) l1 = some (.list ((D.drop 1).map AV.int)) := put_new (hput_self _ _ _) hit
  have git : hput (hput H l1 (.list ((D.drop 1).map AV.int))) it (.it (.list l1 0)) it = some (.it (.list l1 0)) := hput_self _ _ _
  have nit : it ∉ [rl, i.sl, i.nl, i.c0, i.c1, i.c2, i.c3, i.c4, i.c5, i.c6, 140, 147] ++ sa := fun z => L.known _ z it0
  have nl1 : l1 ∉ [i.sl, i.c1, i.c3, i.c4, i.c5] := fun z => L.known l1 (List.mem_append_left _ (by
    simp only [List.mem_cons, List.not_mem_nil, or_false] at z ⊢
    rcases z with q | q | q | q | q <;> simp [q])) hl10
  have ndl : dl ∉ [i.sl, i.c1, i.c3, i.c4, i.c5] := fun z => by
    simp only [List.mem_cons, List.not_mem_nil, or_false] at z
    rcases z with q | q | q | q | q
    · exact hdsl q
    · exact ne_of hdl (L.G.get 4 rfl) nofun q
    · exact ne_of hdl (L.G.get 6 rfl) nofun q
    · exact ne_of hdl (L.G.get 7 rfl) nofun q
    · exact ne_of hdl (L.G.get 8 rfl) nofun q
  have l1it : l1 ≠ it := ne_of g1 git nofun
  have dlit : dl ≠ it := fun z => by rw [z, it0] at hdl; cases hdl
  have h₃ : At fLaw C ⟨lm scr (some (.ref dl)) (some (.ref i.nl)) (some (.str [])) (some (.ref rl)) none none none none none none none none none none none none, hput (hput H l1 (.list ((D.drop 1).map AV.int))) it (.it (.list l1 0))⟩ s₃ := h₃
  generalize hput (hput H l1 (.list ((D.drop 1).map AV.int))) it (.it (.list l1 0)) = H2 at h₃ kp2 g1 git
  have len5 : (D.drop 1).length = 5 := by rw [List.length_drop]; omega
  refine cd_list (F := fLaw) ((D.drop 1).map AV.int) (fun j σ => ∃ rl' xs' sa' y5 y6 y7 v3 v4 v5 H', σ = ⟨lm scr (some (.ref dl)) (some (.ref i.nl)) (some (.str (buildL names room ((D.drop 1).take j)).page)) (some (.ref rl')) y5 y6 y7 none none none none none none none none none, H'⟩ ∧ LS i names room (buildL names room ((D.drop 1).take j)) rl' xs' sa' v3 v4 v5 none H' ∧ H' l1 = some (.list ((D.drop 1).map AV.int)) ∧ H' dl = some (.list (D.map AV.int)) ∧ it ∉ [rl', i.sl, i.nl, i.c0, i.c1, i.c2, i.c3, i.c4, i.c5, i.c6, 140, 147] ++ sa')
    lf.hr.hand (fun j σ kk hI => ?_) (fun j σ hI => ?_) (fun j σ hI => ?_) (fun T j σ s v av tn tc tb tr hav hI h₄ hi ev => ?_) (fun σ s hI h₄ => ?_) ⟨rl, xs, sa, none, none, none, none, none, none, H2, rfl, L.kp kp2, g1, kp2 _ _ hdl, nit⟩ git h₃
  · obtain ⟨rl', xs', sa', y5, y6, y7, v3, v4, v5, H', rfl, L', q1, q2, ni⟩ := hI
    exact ⟨rl', xs', sa', y5, y6, y7, v3, v4, v5, hput H' it (.it kk), rfl, L'.off ni (fun a ao ne e => put_keep e ne), put_keep q1 l1it, put_keep q2 dlit, ni⟩
  · obtain ⟨rl', xs', sa', y5, y6, y7, v3, v4, v5, H', rfl, L', q1, q2, ni⟩ := hI
    have kd : ∀ {a ao}, H' a = some ao → a ≠ it → hdel H' it a = some ao := fun {a ao} e ne => by unfold hdel; rw [if_neg ne]; exact e
    exact ⟨rl', xs', sa', y5, y6, y7, v3, v4, v5, hdel H' it, rfl, L'.off ni (fun a ao ne e => kd e ne), kd q1 l1it, kd q2 dlit, ni⟩
  · obtain ⟨rl', xs', sa', y5, y6, y7, v3, v4, v5, H', rfl, L', q1, q2, ni⟩ := hI
    exact q1
  · obtain ⟨rl', xs', sa', y5, y6, y7, v3, v4, v5, H', rfl, L', q1, q2, ni⟩ := hI
    obtain ⟨num, hnum, rfl⟩ : ∃ x, (D.drop 1)[j]? = some x ∧ av = .int x := by
      rw [List.getElem?_map] at hav
      obtain ⟨x, h1, h2⟩ := Option.map_eq_some_iff.mp hav
      exact ⟨x, h1, h2.symm⟩
    have hj : j < 5 := by have := (List.getElem?_eq_some_iff.mp hnum).1; omega
    refine wp_asgn (am_storecell 3 h₄ rfl (by rw [lf.ca]; rfl) (L'.G.get 6 rfl) fun s₅ h₅ => ?_)
    rw [ev] at h₅
    have L5 := L'.put3 (some (.int num))
    have b5 : LB i H' (hput H' i.c3 (.cell (some (.int num)))) := LB.of (c := i.c3) (fun a ao e ne => put_keep e ne) (by simp)
    have hi5 : hput H' i.c3 (.cell (some (.int num))) it = some (.it (.list l1 (j + 1))) := put_keep hi (fun z => ni (List.mem_append_left _ (by rw [z]; simp)))
    have h₅ : At fLaw C ⟨lm scr (some (.ref dl)) (some (.ref i.nl)) (some (.str (buildL names room ((D.drop 1).take j)).page)) (some (.ref rl')) y5 y6 y7 none none none none none none none none none, hput H' i.c3 (.cell (some (.int num)))⟩ s₅ := h₅
    generalize hput H' i.c3 (.cell (some (.int num))) = H5 at h₅ L5 b5 hi5
    have et : (D.drop 1).take (j + 1) = (D.drop 1).take j ++ [num] := by rw [List.take_add_one (l := D.drop 1) (i := j), hnum]; rfl
    have eb : buildL names room ((D.drop 1).take (j + 1)) = deedStep names room num (buildL names room ((D.drop 1).take j)) := by
      rw [et]; unfold buildL; rw [List.foldl_append]; rfl
    have B := DSok.fold (room := room) hn0 hnl ((D.drop 1).take j) (DSok.start names)
    have lj : ((D.drop 1).take j).length = j := by rw [List.length_take]; omega
    rw [lj, Nat.zero_add] at B
    obtain ⟨B1, B2, B3, B4, B5⟩ := B
    refine deed_spec h₅ lf L5 hn hn0 hnl hr B1 (Nat.le_trans B2 (by omega)) (Nat.le_trans B3 (by omega)) (Nat.le_trans B4 (by omega)) (Nat.le_trans B5 (by omega)) fun rl2 xs2 sa2 z5 z6 z7 w4 w5 H6 s₆ h₆ L6 b6 f6 => tn _ _ ⟨rl2, xs2, sa2, z5, z6, z7, some (.int num), w4, w5, H6, rfl, ?_, (b5.trans b6) _ _ nl1 q1, (b5.trans b6) _ _ ndl q2, fun z => ?_⟩ (b6 _ _ (fun z => ni (List.mem_append_left _ ?_)) hi5) ?_
    · rw [eb]; exact L6
    · have hit5 : H5 it ≠ none := by rw [hi5]; nofun
      have ni' : it ∉ rl2 :: sa2 := fun q => by
        rcases f6 it q with q | q
        · rcases List.mem_cons.mp q with q | q
          · exact ni (by rw [q]; simp)
          · exact ni (List.mem_append_right _ q)
        · exact hit5 q
      rcases List.mem_append.mp z with z | z
      · rcases List.mem_cons.mp z with z | z
        · exact ni' (by rw [z]; simp)
        · exact ni (List.mem_append_left _ (.tail _ z))
      · exact ni' (.tail _ z)
    · simp only [List.mem_cons, List.not_mem_nil, or_false] at z ⊢
      rcases z with q | q | q | q | q <;> simp [q]
    · rw [eb]; exact h₆
  · obtain ⟨rl', xs', sa', y5, y6, y7, v3, v4, v5, H', rfl, L', q1, q2, ni⟩ := hI
    have el : (D.drop 1).take ((D.drop 1).map AV.int).length = D.drop 1 := List.take_of_length_le (by simp)
    rw [el] at L' h₄
    exact k rl' xs' sa' y5 y6 y7 v3 v4 v5 H' s h₄ L' q2
end
end Mine

end
section
open PySem PySem.W PyProof.Rows PySem.Calls PyProof.Rows.LCg
set_option linter.unusedVariables false
namespace Mine
noncomputable def finalPage (d : Int) (page : List Nat) : List Nat := if d / 60 % 3 > 0 then page.dropLast ++ (if d / 60 % 3 = 1 then [] else [92]) else page
theorem finalPage_len (d : Int) (page : List Nat) : (finalPage d page).length ≤ page.length + 1 := by
  unfold finalPage
  split
  · rw [List.length_append, List.length_dropLast]; split <;> simp <;> omega
  · omega
section
variable {C : Cx} {s : Shared} {A : Around} {n : Nat} {fs : List Env} {H : Addr → Option AO} {E : Value → Shared → Prop} {Q : Flow → Shared → Prop} {scr : Addr} {i : LIds} {names : List (List Nat)} {room : Int} {rl dl : Addr} {xs : List AV} {sa : List Addr} {ns : List Int} {ds : DS} {page : List Nat} {v3 v4 v5 v6 : Option AV} {y5 y6 y7 y8 y9 y10 y11 y12 y13 y14 y15 y16 : Option AV}
theorem d0at {m : List (Option AV)} {p1 p2 p3 : Pos} {kk : Nat} {Q : Value → Shared → Prop} (g : At fLaw C ⟨m, H⟩ s) (a : m[1]? = some (some (.ref dl))) (b : H dl = some (.list ((drawn ns).map AV.int))) (q : ∀ v s', At fLaw C ⟨m, H⟩ s' → er v = .int (d0 ns) → Q v s') : Wp C.w A (eval (.Subscript (.Name "drawn" p1) (.Constant (.int 0) kk p2) p3) C.env) Q E s := by
  obtain ⟨e0, _, _⟩ := d0_get ns
  exact wp_sub (am_local 1 g rfl a fun v e => am_cint g fun v₂ s₂ g₂ e₂ => by
      cases er_ref e
      exact am_tailitem g₂ (.inl b) e₂ (by decide) (by rw [List.getElem?_map]; show Option.map _ (drawn ns)[0]? = _; rw [e0]; rfl) (by decide) fun v₃ e₃ => q v₃ _ g₂ e₃)
/-- the end of the page -/
theorem page_spec (h : At fLaw C ⟨lm scr (some (.ref dl)) (some (.ref i.nl)) (some (.str page)) (some (.ref rl)) y5 y6 y7 y8 y9 y10 y11 y12 y13 y14 y15 y16, H⟩ s) (hdl : H dl = some (.list ((drawn ns).map AV.int))) (hpg : page.length ≤ 10000)
    (k : ∀ H' s', At fLaw C ⟨lm scr (some (.ref dl)) (some (.ref i.nl)) (some (.str (finalPage (d0 ns) page))) (some (.ref rl)) y5 y6 y7 y8 y9 y10 y11 y12 y13 y14 y15 y16, H'⟩ s' → Kp H H' → Q .next s') :
    Wp C.w A (exec (nth bLaw 7) C.env) Q E s := by
  refine wp_if (wp_tcmp (wp_binop (wp_binop (d0at h rfl hdl fun dv s₁ h₁ e1 => am_cint h₁ fun v2 s₂ h₂ e2 => am_fdiv h₂ e1 e2 (by decide) (by decide) fun v3 s₃ h₃ e3 => am_cint h₃ fun v4 s₄ h₄ e4 => am_mod h₄ e3 e4 (by decide) fun v5 s₅ h₅ e5 => am_cint h₅ fun v6 s₆ h₆ e6 => am_gt e5 e6 (am_truthy_bool ?_)))))
  by_cases hp : d0 ns / 60 % 3 > 0
  · rw [if_pos (decide_eq_true hp)]
    have ef : finalPage (d0 ns) page = page.dropLast ++ (if d0 ns / 60 % 3 = 1 then [] else [92]) := by unfold finalPage; rw [if_pos hp]
    rw [ef] at k
    refine wp_cons (wp_assign (wp_binop (wp_sub (am_local 3 h₆ rfl rfl fun pv ep => wp_slice (wp_pnone (wp_psome (wp_unop (am_cint h₆ fun v7 s₇ h₇ e7 => am_neg h₇ e7 fun v8 s₈ h₈ e8 => wp_pnone ?_))))))))
    refine am_sslice (li := none) (ui := some (-1)) h₈ ep rfl e8 (by omega) fun v9 s₉ h₉ e9 => ?_
    have cut : (page.drop (loOf none page.length)).take (hiOf (some (-1)) page.length - loOf none page.length) = page.dropLast := by
      have e1 : hiOf (some (-1)) page.length = page.length - 1 := hiOf_neg1 _
      rw [e1, show loOf none page.length = 0 from rfl, List.drop_zero, Nat.sub_zero, List.dropLast_eq_take]
    rw [cut] at e9
    refine wp_sub (wp_list (wp_sp (am_cstr h₉ fun a1 s₁₀ h₁₀ b1 => wp_sp (am_cstr h₁₀ fun a2 s₁₁ h₁₁ b2 => wp_sp0 (am_newlist h₁₁ (by simp) fun D s₁₂ hD h₁₂ => ?_)))))
    have hD0 : H D = none := hD
    have kp1 := (Kp.refl H).new (o := .list ([a1, a2].map er)) hD0
    have gD : hput H D (.list ([a1, a2].map er)) D = some (.list [.str [], .str [92]]) := by
      rw [hput_self]
      show some (AO.list [er a1, er a2]) = _
      rw [b1, b2]; rfl
    have h₁₂ : At fLaw C ⟨lm scr (some (.ref dl)) (some (.ref i.nl)) (some (.str page)) (some (.ref rl)) y5 y6 y7 y8 y9 y10 y11 y12 y13 y14 y15 y16, hput H D (.list ([a1, a2].map er))⟩ s₁₂ := h₁₂
    generalize hput H D (.list ([a1, a2].map er)) = H1 at h₁₂ kp1 gD
    have hx : ([AV.str [], .str [92]])[(d0 ns / 60 % 3 - 1).toNat]? = some (.str (if d0 ns / 60 % 3 = 1 then [] else [92])) := by
      have : d0 ns / 60 % 3 = 1 ∨ d0 ns / 60 % 3 = 2 := by omega
      rcases this with e | e <;> rw [e] <;> rfl
    refine wp_binop (wp_binop (wp_binop (d0at h₁₂ rfl (kp1 _ _ hdl) fun dv s₁ h₁ e1 => am_cint h₁ fun v2 s₂ h₂ e2 => am_fdiv h₂ e1 e2 (by decide) (by decide) fun v3 s₃ h₃ e3 => am_cint h₃ fun v4 s₄ h₄ e4 => am_mod h₄ e3 e4 (by decide) fun v5 s₅ h₅ e5 => am_cint h₅ fun v6 s₆ h₆ e6 => am_sub h₆ e5 e6 fun v7 s₇ h₇ e7 => am_tailitem h₇ (.inl gD) e7 (by omega) hx (by omega) fun v8 e8 => am_sadd h₇ e9 e8 ?_ fun v10 s₁₃ h₁₃ e10 => am_store 3 h₁₃ rfl fun s₁₄ h₁₄ => wp_nil ?_)))
    · rw [List.length_dropLast]; split <;> simp <;> omega
    · rw [e10] at h₁₄
      exact k H1 s₁₄ h₁₄ kp1
  · rw [if_neg (by rw [decide_eq_false hp]; decide)]
    have ef : finalPage (d0 ns) page = page := by unfold finalPage; rw [if_neg hp]
    rw [ef] at k
    exact wp_nil (k H s₆ h₆ (Kp.refl H))
/-- what the law asks of what was built -/
structure Pure (ns : List Int) (msf : MS) : Prop where
  run : runM (namesL ns) (1 + d0 ns % 3) (roomI ns) 60 (ms0 (finalPage (d0 ns) (buildL (namesL ns) (roomI ns) ((drawn ns).drop 1)).page) (roomI ns)) = some ([], msf)
  pb : msf.pb = []
  rest : msf.rest = []
  whole : msf.signs.flatten = (buildL (namesL ns) (roomI ns) ((drawn ns).drop 1)).whole
  rests : msf.refused = (buildL (namesL ns) (roomI ns) ((drawn ns).drop 1)).rests
  last : ∃ pre, msf.books = pre ++ [((buildL (namesL ns) (roomI ns) ((drawn ns).drop 1)).whole.length, told msf.offs (nN ns))]
theorem call_spec {msf : MS} (h : At fLaw C ⟨lm scr (some (.ref dl)) (some (.ref i.nl)) (some (.str page)) (some (.ref rl)) y5 y6 y7 none none none none none none none none none, H⟩ s) (lf : LFr C A fs n i.cs) (L : LS i names room ds rl xs sa v3 v4 v5 v6 H) (hdl : H dl = some (.list ((drawn ns).map AV.int))) (hpg : page.length ≤ 1000) (hn : names.length ≤ 8) (hn5 : 5 ≤ names.length) (hro : 0 ≤ room) (hro' : room ≤ 1000)
    (hrun : runM names (1 + d0 ns % 3) room 60 (ms0 page room) = some ([], msf)) (hpb : msf.pb = []) (hrest : msf.rest = [])
    (k : ∀ H' s' bk rf e la bxs ba, At fLaw C ⟨lm scr (some (.ref dl)) (some (.ref i.nl)) (some (.str page)) (some (.ref rl)) y5 y6 y7 (some (.ref bk)) (some (.ref rf)) (some (.ref e)) (some (.str msf.signs.flatten)) (some (.ref la)) none none none none, H'⟩ s' → (∀ a ao, H a = some ao → a ≠ 140 → a ≠ 147 → H' a = some ao) → H' bk = some (.list bxs) → BooksAt H' bxs msf.books ba → H' rf = some (.list (msf.refused.map AV.str)) →
      H' e = some (.list [.str [], .str [], .int (1 + (page.count 10 : Nat)), .none, .none, .str (closedL ++ (Str.ofString "late").cps.toList), .str flushL, .str closeL]) → H' la = some (.list ((told msf.offs names.length).map AV.int)) → TabAt H' 140 → TabAt H' 147 → Q .next s') :
    Wp C.w A (exec (nth bLaw 8) C.env) Q E s := by
  refine wp_atup (wp_callx (am_glob (v := .ref 157) 3 h rfl (by kernel_rfl!) (wp_fnargs (wp_sp (wp_callx (am_glob (v := .ref 152) 4 h rfl (by kernel_rfl!) (wp_fnargs (wp_sp (am_local 3 h rfl rfl fun pv ep => wp_sp0 ⟨h.fnAt (by kernel_rfl!), wp_call ?_⟩)))))))))
  refine lawlexer_spec (n := n) h (lf.hr.cast (by omega)) ep (L.G.get 11 rfl) fun s₁ H1 l h₁ L1 b1 fr t147 => ?_
  have k1 : ∀ {a ao}, H a = some ao → a ≠ 147 → H1 a = some ao := fun {a ao} e ne => b1 a ao (fun z => ne (List.mem_singleton.mp z)) e
  have n147 : ∀ (j : Nat) {a : Addr} {ao : AO}, j ≠ 11 → ([(rl, AO.list (ds.rests.map AV.str)), (i.sl, .list xs), (i.nl, .list (names.map AV.str)), (i.c0, .cell (some (.int room))), (i.c1, .cell (some (.str ds.whole))), (i.c2, .cell (some (.ref i.sl))), (i.c3, .cell v3), (i.c4, .cell v4), (i.c5, .cell v5), (i.c6, .cell v6), (140, .raw (tabObj #[])), (147, .raw (tabObj #[]))] : List (Addr × AO))[j]? = some (a, ao) → H1 a = some ao := fun j {a ao} hj e =>
    k1 (L.G.get j e) (L.G.ne j 11 e rfl hj)
  have h140 : H1 140 = some (.raw (tabObj #[])) := n147 10 (by decide) rfl
  have hnl := n147 2 (by decide) rfl
  have hc0 := n147 3 (by decide) rfl
  have ndl : dl ≠ 147 := fun z => by
    have := L.G.get 11 rfl
    rw [z, this] at hdl; cases hdl
  have hdl1 := k1 hdl ndl
  have nx : ∀ {a : Addr}, H a ≠ none → a ∉ lexAddrs l := fun {a} e z => e (fr a z)
  refine wp_sp (am_local 2 h₁ rfl rfl fun nv env => wp_sp (wp_binop (am_cint h₁ fun v1 s₂ h₂ e1 => wp_binop (d0at h₂ rfl hdl1 fun v2 s₃ h₃ e2 => am_cint h₃ fun v3 s₄ h₄ e3 => am_mod h₄ e2 e3 (by decide) fun v4 s₅ h₅ e4 => am_add h₅ e1 e4 fun v5 s₆ h₆ e5 => wp_sp (am_cell 0 h₆ rfl (by rw [lf.ca]; rfl) hc0 fun rv erv => wp_sp0 ⟨h₆.fnAt (by kernel_rfl!), wp_call ?_⟩)))))
  refine keeps_spec (n := n) (l := l) h₆ (lf.hr.cast (by omega)) lf.stk rfl env e5 erv L1 hnl h140 (nx (by rw [L.G.get 2 rfl]; nofun)) (nx (by rw [L.G.get 10 rfl]; nofun)) hn hn5 hpg (by omega) (by omega) hro hro' hrun hpb hrest fun s₇ H2 tu bk rf e la bxs ba h₇ htu hbk hbks hrf hen hla b2 t140 => ?_
  refine am_untuple h₇ lf.hr.hand htu rfl rfl fun vs s₈ evs h₈ => ?_
  obtain ⟨w1, w2, w3, w4, w5, rfl, ev1, ev2, ev3, ev4, ev5⟩ := ers5 evs
  refine wp_ino (wp_asgn (am_store 8 h₈ rfl fun s₉ h₉ => wp_ino (wp_asgn (am_store 9 h₉ rfl fun s₁₀ h₁₀ => wp_ino (wp_asgn (am_store 10 h₁₀ rfl fun s₁₁ h₁₁ => wp_ino (wp_asgn (am_store 11 h₁₁ rfl fun s₁₂ h₁₂ => wp_ino (wp_asgn (am_store 12 h₁₂ rfl fun s₁₃ h₁₃ => wp_ino0 ?_))))))))))
  have h₁₃ : At fLaw C ⟨lm scr (some (.ref dl)) (some (.ref i.nl)) (some (.str page)) (some (.ref rl)) y5 y6 y7 (some (er w1)) (some (er w2)) (some (er w3)) (some (er w4)) (some (er w5)) none none none none, H2⟩ s₁₃ := h₁₃
  rw [ev1, ev2, ev3, ev4, ev5] at h₁₃
  refine k H2 s₁₃ bk rf e la bxs ba h₁₃ (fun a ao ea n1 n2 => b2 a ao (fun z => ?_) (k1 ea n2)) hbk hbks hrf hen hla t140 ?_
  case refine_2 =>
    obtain ⟨ps, e7⟩ := t147
    refine ⟨ps, b2 147 _ (fun z => ?_) e7⟩
    have n7 : H 147 ≠ none := by rw [show H 147 = _ from L.G.get 11 rfl]; nofun
    simp only [List.mem_cons, List.not_mem_nil, or_false] at z
    rcases z with z | z | z | z
    · exact absurd z (by decide)
    · exact nx n7 (by rw [z]; simp [lexAddrs])
    · exact nx n7 (by rw [z]; simp [lexAddrs])
    · exact nx n7 (by rw [z]; simp [lexAddrs])
  simp only [List.mem_cons, List.not_mem_nil, or_false] at z
  have na : H a ≠ none := by rw [ea]; nofun
  rcases z with z | z | z | z
  · exact n1 z
  · exact nx na (by rw [z]; simp [lexAddrs])
  · exact nx na (by rw [z]; simp [lexAddrs])
  · exact nx na (by rw [z]; simp [lexAddrs])
end
end Mine

end
section
open PySem PySem.W PyProof.Rows PySem.Calls PyProof.Rows.LCg
set_option linter.unusedVariables false
namespace Mine
structure VIds where
  i : LIds
  rl : Addr
  bk : Addr
  rf : Addr
  e : Addr
  la : Addr
/-- what law looks at in the end -/
structure LV (V : VIds) (names : List (List Nat)) (ds : DS) (xs : List AV) (sa : List Addr) (v6 : Option AV) (msf : MS) (line : Int) (bxs : List AV) (ba : List Addr) (H : Addr → Option AO) : Prop where
  rl : H V.rl = some (.list (ds.rests.map AV.str))
  sl : H V.i.sl = some (.list xs)
  nl : H V.i.nl = some (.list (names.map AV.str))
  c1 : H V.i.c1 = some (.cell (some (.str ds.whole)))
  c2 : H V.i.c2 = some (.cell (some (.ref V.i.sl)))
  c6 : H V.i.c6 = some (.cell v6)
  S : SumsAt H xs ds.sums sa
  kn : ∀ a ∈ sa, ∃ xs, H a = some (.list xs)
  bk : H V.bk = some (.list bxs)
  bks : BooksAt H bxs msf.books ba
  rf : H V.rf = some (.list (msf.refused.map AV.str))
  e : H V.e = some (.list [.str [], .str [], .int line, .none, .none, .str (closedL ++ (Str.ofString "late").cps.toList), .str flushL, .str closeL])
  la : H V.la = some (.list ((told msf.offs names.length).map AV.int))
  n16 : V.i.c1 ≠ V.i.c6
  n26 : V.i.c2 ≠ V.i.c6
  t140 : TabAt H 140
  t147 : TabAt H 147
section
variable {V : VIds} {names : List (List Nat)} {ds : DS} {xs : List AV} {sa : List Addr} {v6 : Option AV} {msf : MS} {line : Int} {bxs : List AV} {ba : List Addr} {H H' : Addr → Option AO}
theorem LV.kp (L : LV V names ds xs sa v6 msf line bxs ba H) (k : Kp H H') : LV V names ds xs sa v6 msf line bxs ba H' :=
  ⟨k _ _ L.rl, k _ _ L.sl, k _ _ L.nl, k _ _ L.c1, k _ _ L.c2, k _ _ L.c6, L.S.agree (k.ag _), fun a ha => let ⟨x, e⟩ := L.kn a ha; ⟨x, k _ _ e⟩, k _ _ L.bk, L.bks.agree (k.ag _), k _ _ L.rf, k _ _ L.e, k _ _ L.la, L.n16, L.n26, (let ⟨ps, e⟩ := L.t140; ⟨ps, k _ _ e⟩), (let ⟨ps, e⟩ := L.t147; ⟨ps, k _ _ e⟩)⟩
theorem LV.put6 (L : LV V names ds xs sa v6 msf line bxs ba H) (w : Option AV) : LV V names ds xs sa w msf line bxs ba (hput H V.i.c6 (.cell w)) := by
  have kk : ∀ {a ao}, H a = some ao → (∀ v, ao ≠ .cell v) → hput H V.i.c6 (.cell w) a = some ao := fun {a ao} e n => put_keep e (ne_of e L.c6 (n _))
  refine ⟨kk L.rl fun _ => nofun, kk L.sl fun _ => nofun, kk L.nl fun _ => nofun, put_keep L.c1 L.n16, put_keep L.c2 L.n26, hput_self _ _ _, L.S.agree fun a ha ao e => ?_, fun a ha => let ⟨x, e⟩ := L.kn a ha; ⟨x, kk e fun _ => nofun⟩, kk L.bk fun _ => nofun, ⟨L.bks.1, fun i n td e => let ⟨a, l, q1, q2, q3, q4, q5⟩ := L.bks.2 i n td e; ⟨a, l, q1, q2, q3, kk q4 fun _ => nofun, kk q5 fun _ => nofun⟩⟩,
    kk L.rf fun _ => nofun, kk L.e fun _ => nofun, kk L.la fun _ => nofun, L.n16, L.n26, (let ⟨ps, e⟩ := L.t140; ⟨ps, kk e fun _ => nofun⟩), (let ⟨ps, e⟩ := L.t147; ⟨ps, kk e fun _ => nofun⟩)⟩
  · obtain ⟨x, e'⟩ := L.kn a ha
    exact put_keep e (ne_of e' L.c6 nofun)
end
theorem drop_last {α : Type} {xs : List α} {k : Nat} {x : α} (hl : xs.length = k + 1) (hx : xs[k]? = some x) : xs.drop k = [x] := by
  have hk : k < xs.length := by omega
  rw [List.drop_eq_getElem_cons hk]
  have : xs[k] = x := by rw [List.getElem?_eq_getElem hk] at hx; exact Option.some.inj hx
  rw [this, List.drop_of_length_le (by omega)]
noncomputable def StrsOk (l : List (List Nat)) : Prop := ∀ r ∈ l, ∀ c ∈ r, c < 1114112
theorem kqd_str {x : List Nat} (h : ∀ c ∈ x, c < 1114112) : kqdOk 8 (.str ⟨x.toArray⟩) = true := by
  show PyData.strOk _ = true
  unfold PyData.strOk
  rw [← Array.all_toList, List.all_eq_true]
  intro c hc
  exact decide_eq_true (h c (by simpa using hc))
theorem kqd_ints (l : List Int) : kqdOk 7 (.list (l.map W.Dat.int)) = true := by
  show (l.map W.Dat.int).all (kqdOk 6) = true
  rw [List.all_eq_true]
  intro d hd
  obtain ⟨i, _, rfl⟩ := List.mem_map.mp hd
  rfl
section
variable {C : Cx} {s : Shared} {A : Around} {n : Nat} {fs : List Env} {H : Addr → Option AO} {E : Value → Shared → Prop} {Q : Flow → Shared → Prop} {scr dl : Addr} {V : VIds} {names : List (List Nat)} {ds : DS} {xs : List AV} {sa : List Addr} {v6 : Option AV} {msf : MS} {line : Int} {bxs : List AV} {ba : List Addr} {page : List Nat} {y5 y6 y7 y13 y14 y15 y16 : Option AV}
noncomputable abbrev lv (scr dl : Addr) (V : VIds) (page tape : List Nat) (y5 y6 y7 y13 y14 y15 y16 : Option AV) : List (Option AV) := lm scr (some (.ref dl)) (some (.ref V.i.nl)) (some (.str page)) (some (.ref V.rl)) y5 y6 y7 (some (.ref V.bk)) (some (.ref V.rf)) (some (.ref V.e)) (some (.str tape)) (some (.ref V.la)) y13 y14 y15 y16
theorem check_spec (h : At fLaw C ⟨lv scr dl V page ds.whole y5 y6 y7 y13 y14 y15 y16, H⟩ s) (lf : LFr C A fs n V.i.cs) (L : LV V names ds xs sa v6 msf line bxs ba H) (hw : ds.whole.length ≤ 1000) (hr : msf.refused = ds.rests) (hs : StrsOk ds.rests) (hl : ∃ pre, msf.books = pre ++ [(ds.whole.length, told msf.offs names.length)]) (hb : bxs.length ≤ 1000)
    (k : ∀ H' s', At fLaw C ⟨lv scr dl V page ds.whole y5 y6 y7 y13 y14 y15 y16, H'⟩ s' → Kp H H' → Q .next s') :
    Wp C.w A (exec (nth bLaw 9) C.env) Q E s := by
  have ca1 : C.ca[1]? = some V.i.c1 := by rw [lf.ca]; rfl
  refine wp_if (wp_tor (wp_tcmp (am_local 11 h rfl rfl fun v1 e1 => am_cell 1 h rfl ca1 L.c1 fun v2 e2 => am_sne e1 e2 (am_truthy_bool ?_))))
  rw [if_neg (by simp)]
  refine wp_tor (wp_tcmp (am_local 9 h rfl rfl fun v e => ?_))
  cases er_ref e
  refine am_local 4 h rfl rfl fun v e => ?_
  cases er_ref e
  have hrf := L.rf
  rw [hr] at hrf
  have ok : ∀ d ∈ ds.rests.map (fun x => W.Dat.str ⟨x.toArray⟩), kqdOk 8 d = true := fun d hd => by
    obtain ⟨r, hr', rfl⟩ := List.mem_map.mp hd
    exact kqd_str (hs r hr')
  refine am_lne (n := n) h hrf L.rl (adats_strs _) (adats_strs _) ok ok (lf.hr.cast (by omega)) (am_truthy_bool ?_)
  rw [if_neg (by simp)]
  -- books[-1:]
  obtain ⟨pre, hpre⟩ := hl
  have hbl : bxs.length = pre.length + 1 := by rw [L.bks.1, hpre]; simp
  obtain ⟨a, l, q1, _, _, q4, q5⟩ := L.bks.2 pre.length ds.whole.length (told msf.offs names.length) (by rw [hpre]; simp)
  refine wp_tor (wp_tcmp (wp_sub (am_local 8 h rfl rfl fun v e => ?_)))
  cases er_ref e
  refine wp_slice (wp_psome (wp_unop (am_cint h fun v1 s₁ h₁ e1 => am_neg h₁ e1 fun v2 s₂ h₂ e2 => wp_pnone (wp_pnone ?_))))
  refine am_lslice (li := some (-1)) (ui := none) h₂ L.bk e2 rfl (by omega) fun D1 s₃ hD1 h₃ => ?_
  have cut : (bxs.drop (loOf (some (-1)) bxs.length)).take (hiOf none bxs.length - loOf (some (-1)) bxs.length) = [.ref a] := by
    have e1 : loOf (some (-1)) bxs.length = pre.length := by rw [loOf_neg1]; omega
    rw [e1, show hiOf none bxs.length = bxs.length from rfl, drop_last hbl q1, hbl]
    exact List.take_of_length_le (by simp)
  rw [cut] at h₃
  have hD1 : H D1 = none := hD1
  have kp1 := (Kp.refl H).new (o := .list [.ref a]) hD1
  have g1 : hput H D1 (.list [.ref a]) D1 = some (.list [.ref a]) := hput_self _ _ _
  have h₃ : At fLaw C ⟨lv scr dl V page ds.whole y5 y6 y7 y13 y14 y15 y16, hput H D1 (.list [.ref a])⟩ s₃ := h₃
  generalize hput H D1 (.list [.ref a]) = H1 at h₃ kp1 g1
  have L1 := L.kp kp1
  refine wp_list (wp_sp (wp_tuple (wp_sp (wp_callx (am_bltn (v := .builtin "len") 0 h₃ rfl (by kernel_rfl!) (by kernel_rfl!) (by decide) (wp_bargs (wp_sp (am_cell 1 h₃ rfl ca1 L1.c1 fun v e => wp_sp0 (am_slen h₃ e (by omega) fun nv s₄ h₄ en => wp_sp (am_local 12 h₄ rfl rfl fun lv' el => wp_sp0 (am_newtuple h₄ (by simp) fun tu s₅ htu h₅ => wp_sp0 (am_newlist h₅ (by simp) fun D2 s₆ hD2 h₆ => ?_))))))))))))
  cases er_ref el
  have htu : H1 tu = none := htu
  rw [show List.map er [nv, Value.ref V.la] = [er nv, .ref V.la] from rfl, en] at h₆ hD2
  have hD2 : hput H1 tu (.tuple [.int ds.whole.length, .ref V.la]) D2 = none := hD2
  have kp2 : Kp H1 (hput (hput H1 tu (.tuple [.int ds.whole.length, .ref V.la])) D2 (.list [.ref tu])) := ((Kp.refl H1).new htu).new hD2
  have g2 : hput (hput H1 tu (.tuple [.int ds.whole.length, .ref V.la])) D2 (.list [.ref tu]) D2 = some (.list [.ref tu]) := hput_self _ _ _
  have g3 : hput (hput H1 tu (.tuple [.int ds.whole.length, .ref V.la])) D2 (.list [.ref tu]) tu = some (.tuple [.int ds.whole.length, .ref V.la]) := put_new (hput_self _ _ _) hD2
  have h₆ : At fLaw C ⟨lv scr dl V page ds.whole y5 y6 y7 y13 y14 y15 y16, hput (hput H1 tu (.tuple [.int ds.whole.length, .ref V.la])) D2 (.list [.ref tu])⟩ s₆ := h₆
  generalize hput (hput H1 tu (.tuple [.int ds.whole.length, .ref V.la])) D2 (.list [.ref tu]) = H2 at h₆ kp2 g2 g3
  have L2 := L1.kp kp2
  have okt : ∀ d ∈ [W.Dat.tuple [.int ds.whole.length, .list ((told msf.offs names.length).map W.Dat.int)]], kqdOk 8 d = true := fun d hd => by
    rw [List.mem_singleton.mp hd]
    show ([W.Dat.int ds.whole.length, .list ((told msf.offs names.length).map W.Dat.int)]).all (kqdOk 7) = true
    simp only [List.all_cons, List.all_nil, Bool.and_true, Bool.and_eq_true]
    exact ⟨rfl, kqd_ints _⟩
  refine am_lne (n := n) h₆ (kp2 _ _ g1) g2 (ds := [.tuple [.int ds.whole.length, .list ((told msf.offs names.length).map W.Dat.int)]]) (es := [.tuple [.int ds.whole.length, .list ((told msf.offs names.length).map W.Dat.int)]]) (.cons (.tuple (kp2 _ _ (kp1 _ _ q4)) (.cons (.int _) (.cons (.list (kp2 _ _ (kp1 _ _ q5)) (adats_ints _)) .nil))) .nil)
    (.cons (.tuple g3 (.cons (.int _) (.cons (.list L2.la (adats_ints _)) .nil))) .nil) okt okt (lf.hr.cast (by omega)) (am_truthy_bool ?_)
  rw [if_neg (by simp)]
  refine wp_tor0 ?_
  rw [if_neg (by decide)]
  exact wp_nil (k H2 s₆ h₆ (kp1.trans kp2))
end
end Mine

end
section
open PySem PySem.W PyProof.Rows PySem.Calls PyProof.Rows.LCg
set_option linter.unusedVariables false
namespace Mine
noncomputable def pathP (i k : Nat) : Bool := PySem.Builtin.bitAnd ((i : Int) / 2 ^ k) 1 == 1
noncomputable def pathV (i k : Nat) : Int := ((i : Int) / 2 ^ k) * 2 ^ k
noncomputable def pathI (i : Nat) : List Int := ((List.range 4).filter (pathP i)).map (pathV i)
noncomputable def fPaths : FnS := ⟨[], ["i"], [], ["range"]⟩
noncomputable def fPath : FnS := ⟨["k"], ["i"], [], []⟩
theorem i64 (i k : Nat) (h : i ≤ 8) : ((i : Int) / 2 ^ k).natAbs < 2 ^ 64 := by
  have h1 : (0 : Int) ≤ (i : Int) / 2 ^ k := Int.ediv_nonneg (by omega) (Int.le_of_lt (Int.pow_pos (by decide)))
  have h2 : (i : Int) / 2 ^ k ≤ i := Int.ediv_le_self _ (by omega)
  omega
section
variable {C : Cx} {s : Shared} {A : Around} {n : Nat} {fs : List Env} {H : Addr → Option AO} {E : Value → Shared → Prop} {Q : Flow → Shared → Prop} {scr dl : Addr} {V : VIds} {names : List (List Nat)} {ds : DS} {xs : List AV} {sa : List Addr} {v6 : Option AV} {msf : MS} {line : Int} {bxs : List AV} {ba : List Addr} {page tape : List Nat} {y5 y6 y7 y13 y14 y15 y16 : Option AV}
theorem paths_spec (h : At fLaw C ⟨lv scr dl V page tape y5 y6 y7 y13 y14 y15 y16, H⟩ s) (lf : LFr C A fs n V.i.cs) (hnl : H V.i.nl = some (.list (names.map AV.str))) (hn : names.length ≤ 8)
    (k : ∀ pl H' s' xs sa, At fLaw C ⟨lv scr dl V page tape y5 y6 y7 (some (.ref pl)) y14 y15 y16, H'⟩ s' → Kp H H' → H' pl = some (.list xs) → SumsAt H' xs ((List.range names.length).map fun q => pathI (q + 1)) sa → (∀ a ∈ sa, ∃ xs, H' a = some (.list xs)) → Q .next s') :
    Wp C.w A (exec (nth bLaw 10) C.env) Q E s := by
  refine am_lcompA (F' := fPaths) 13 [] [] h.env (by kernel_rfl!) .nil rfl (swaps_true h.env.kind (h.env.nm 13 "paths" rfl).1 rfl rfl) (wp_callx (am_bltn (v := .type "range") 1 h rfl (by kernel_rfl!) (by kernel_rfl!) (by decide) (wp_targs (wp_sp (am_cint h fun ov s₁ h₁ eo => wp_sp (wp_binop (wp_callx (am_bltn (v := .builtin "len") 0 h₁ rfl (by kernel_rfl!) (by kernel_rfl!) (by decide) (wp_bargs (wp_sp (am_local 2 h₁ rfl rfl fun v e => ?_)))))))))))
  cases er_ref e
  refine wp_sp0 (am_len h₁ hnl (by simp; omega) fun lv' s₂ h₂ el => am_cint h₂ fun o2 s₃ h₃ eo2 => am_add h₃ el eo2 fun sv s₄ h₄ es => wp_sp0 (am_range2 h₄ eo es fun Dr s₅ t u w hDr h₅ => am_iter_range h₅ (hput_self _ _ _) (small_of (by decide) (by decide) (by rw [List.length_map]; omega) (by rw [List.length_map]; omega) (.inl rfl)) fun it s₆ hit h₆ => ?_))
  have hDr : H Dr = none := hDr
  have kp1 : Kp H (hput H Dr (.raw (rngObj 1 (((names.map AV.str).length : Nat) + 1) 1 t u w))) := (Kp.refl H).new hDr
  have it0 : H it = none := kp1.no hit
  have kp2 := kp1.new (o := .it (.range 1 (Builtin.Range.rangeSize 1 (((names.map AV.str).length : Nat) + 1) 1) 1)) hit
  have h₆ : At fLaw C ⟨lv scr dl V page tape y5 y6 y7 y13 y14 y15 y16, hput (hput H Dr (.raw (rngObj 1 (((names.map AV.str).length : Nat) + 1) 1 t u w))) it (.it (.range 1 (Builtin.Range.rangeSize 1 (((names.map AV.str).length : Nat) + 1) 1) 1))⟩ s₆ := h₆
  have hi2 : hput (hput H Dr (.raw (rngObj 1 (((names.map AV.str).length : Nat) + 1) 1 t u w))) it (.it (.range 1 (Builtin.Range.rangeSize 1 (((names.map AV.str).length : Nat) + 1) 1) 1)) it = some (.it (.range 1 (Builtin.Range.rangeSize 1 (((names.map AV.str).length : Nat) + 1) 1) 1)) := hput_self _ _ _
  generalize hput (hput H Dr (.raw (rngObj 1 (((names.map AV.str).length : Nat) + 1) 1 t u w))) it (.it (.range 1 (Builtin.Range.rangeSize 1 (((names.map AV.str).length : Nat) + 1) 1) 1)) = H2 at h₆ hi2 kp2
  rw [List.length_map, rsize_up (by omega), show ((names.length : Nat) : Int) + 1 - 1 = (names.length : Int) by omega] at hi2
  refine ⟨_, it, _, h₆, rfl, hi2, rfl, fun D C' s₇ hD hE hca h₇ => ?_⟩
  have hD2 : H2 D = none := hD
  have hcv : (cvs (match nth bLaw 10 with | .Assign _ (.ListComp _ _ sc _) _ => sc | _ => default).names).length = 1 := by kernel_rfl!
  have h₇ : At fPaths C' ⟨[], hcells (hput H2 D (.list [])) C'.L 1⟩ s₇ := h₇
  have hca : C'.ca = [C'.L + 1 + 0] := hca
  have kpc : Kp (hput H2 D (.list [])) (hcells (hput H2 D (.list [])) C'.L 1) := (Kp.refl _).cells hE.fresh
  have gc : hcells (hput H2 D (.list [])) C'.L 1 (C'.L + 1 + 0) = some (.cell none) := hcells_at (by decide)
  have nc : hput H2 D (.list []) (C'.L + 1 + 0) = none := hE.fresh _ (Nat.le_succ _)
  have q0 : C'.ca[0]? = some (C'.L + 1 + 0) := by rw [hca]; rfl
  generalize hcells (hput H2 D (.list [])) C'.L 1 = H3 at h₇ kpc gc
  generalize C'.L + 1 + 0 = ci at gc nc q0
  have itD : it ≠ D := fun z => by rw [z, hD2] at hi2; cases hi2
  have kp3 : Kp H2 H3 := ((Kp.refl H2).new hD2).trans kpc
  have hit3 := kp3 _ _ hi2
  have hD3 : H3 D = some (.list []) := kpc _ _ (hput_self _ _ _)
  have ci0 : H2 ci = none := ((Kp.refl H2).new hD2).no nc
  have hw := hE.w
  refine cd_comp (F := fPaths) (fun m σ' => ∃ j H' xs sa v, j + m = names.length ∧ σ' = ⟨[], H'⟩ ∧ But [it] H2 H' ∧ H' it = some (.it (.range (1 + 1 * (j : Int)) (m : Nat) 1)) ∧ H' D = some (.list xs) ∧ H' ci = some (.cell v) ∧ SumsAt H' xs ((List.range j).map fun q => pathI (q + 1)) sa ∧ D ∉ sa ∧ ∀ a ∈ sa, ∃ xs, H' a = some (.list xs))
    (fun m σ' s hI h₈ => ?_) names.length ⟨0, H3, [], [], none, by omega, rfl, kp3.but _, by simpa using hit3, hD3, gc, ⟨rfl, fun i v e => by simp at e⟩, by simp, fun a ha => by cases ha⟩ h₇
  obtain ⟨j, H', xs, sa, v, hj, rfl, bt, hi, hd, hci, S, nD, kn⟩ := hI
  cases m with
  | zero =>
    have : j = names.length := by omega
    subst this
    refine am_end_range h₈ lf.hr.hand hi (by omega) fun s₉ h₉ => ⟨_, h₉, fun s' h' => ?_⟩
    have kd : ∀ {a ao}, H' a = some ao → a ≠ it → hdel H' it a = some ao := fun {a ao} e ne => by unfold hdel; rw [if_neg ne]; exact e
    refine k D (hdel H' it) s' xs sa h' (fun a ao e => ?_) (kd hd itD.symm) (S.agree fun a ha ao e => kd e fun z => ?_) fun a ha => ?_
    · have na : a ≠ it := fun z => by rw [z, it0] at e; cases e
      exact kd (bt a ao (fun z => na (List.mem_singleton.mp z)) (kp2 a ao e)) na
    · obtain ⟨x, e'⟩ := kn a ha
      rw [z, hi] at e'; cases e'
    · obtain ⟨x, e'⟩ := kn a ha
      exact ⟨x, kd e' fun z => by rw [z, hi] at e'; cases e'⟩
  | succ m =>
    refine am_next_range h₈ hi (by omega) fun v1 s₉ ev h₉ => ?_
    have ej : (1 + 1 * (j : Int)) = ((j + 1 : Nat) : Int) := by omega
    have er1 : (1 + 1 * (j : Int)) + 1 = 1 + 1 * ((j + 1 : Nat) : Int) := by omega
    have em : (((m + 1 : Nat) : Int) - 1) = (m : Nat) := by omega
    rw [er1, em] at h₉
    rw [ej] at ev
    have ciit : ci ≠ it := fun z => by rw [z, hi] at hci; cases hci
    have ciD : ci ≠ D := fun z => by rw [z, hd] at hci; cases hci
    have snit : ∀ a ∈ sa, a ≠ it := fun a ha z => by
      obtain ⟨x, e'⟩ := kn a ha
      rw [z, hi] at e'; cases e'
    have snci : ∀ a ∈ sa, a ≠ ci := fun a ha z => by
      obtain ⟨x, e'⟩ := kn a ha
      rw [z, hci] at e'; cases e'
    have h₉ : At fPaths C' ⟨[], hput H' it (.it (.range (1 + 1 * ((j + 1 : Nat) : Int)) (m : Nat) 1))⟩ s₉ := h₉
    have hci9 : hput H' it (.it (.range (1 + 1 * ((j + 1 : Nat) : Int)) (m : Nat) 1)) ci = some (.cell v) := put_keep hci ciit
    refine wp_asgn (am_storecell 0 h₉ rfl q0 hci9 fun s₁₀ h₁₀ => ?_)
    rw [ev] at h₁₀
    have h₁₀ : At fPaths C' ⟨[], hput (hput H' it (.it (.range (1 + 1 * ((j + 1 : Nat) : Int)) (m : Nat) 1))) ci (.cell (some (.int (j + 1 : Nat))))⟩ s₁₀ := h₁₀
    have bt10 : But [it] H2 (hput (hput H' it (.it (.range (1 + 1 * ((j + 1 : Nat) : Int)) (m : Nat) 1))) ci (.cell (some (.int (j + 1 : Nat))))) := (bt.put (.inl (by simp))).put (.inr ci0)
    have hi10 : hput (hput H' it (.it (.range (1 + 1 * ((j + 1 : Nat) : Int)) (m : Nat) 1))) ci (.cell (some (.int (j + 1 : Nat)))) it = some (.it (.range (1 + 1 * ((j + 1 : Nat) : Int)) (m : Nat) 1)) := put_keep (hput_self _ _ _) ciit.symm
    have hd10 : hput (hput H' it (.it (.range (1 + 1 * ((j + 1 : Nat) : Int)) (m : Nat) 1))) ci (.cell (some (.int (j + 1 : Nat)))) D = some (.list xs) := put_keep (put_keep hd itD.symm) ciD.symm
    have hc10 : hput (hput H' it (.it (.range (1 + 1 * ((j + 1 : Nat) : Int)) (m : Nat) 1))) ci (.cell (some (.int (j + 1 : Nat)))) ci = some (.cell (some (.int (j + 1 : Nat)))) := hput_self _ _ _
    have S10 : SumsAt (hput (hput H' it (.it (.range (1 + 1 * ((j + 1 : Nat) : Int)) (m : Nat) 1))) ci (.cell (some (.int (j + 1 : Nat))))) xs ((List.range j).map fun q => pathI (q + 1)) sa := S.agree fun a ha ao e => put_keep (put_keep e (snit a ha)) (snci a ha)
    have kn10 : ∀ a ∈ sa, ∃ xs, hput (hput H' it (.it (.range (1 + 1 * ((j + 1 : Nat) : Int)) (m : Nat) 1))) ci (.cell (some (.int (j + 1 : Nat)))) a = some (.list xs) := fun a ha => let ⟨x, e⟩ := kn a ha; ⟨x, put_keep (put_keep e (snit a ha)) (snci a ha)⟩
    generalize hput (hput H' it (.it (.range (1 + 1 * ((j + 1 : Nat) : Int)) (m : Nat) 1))) ci (.cell (some (.int (j + 1 : Nat)))) = H4 at h₁₀ bt10 hi10 hd10 hc10 S10 kn10
    refine wp_tests0 ?_
    rw [if_pos rfl]
    -- the path
    refine am_lcomp (F' := fPath) ["i"] [ci] h₁₀.env (by kernel_rfl!) (.cons 0 rfl q0 .nil) (wp_callx (am_bltn (v := .type "range") 0 h₁₀ rfl (by rw [hw]; kernel_rfl!) (by kernel_rfl!) (by decide) (wp_targs (wp_sp (am_cint h₁₀ fun fv s₁₁ h₁₁ ef => wp_sp0 (am_range1 h₁₁ ef fun Dr2 s₁₂ t2 u2 w2 hDr2 h₁₂ => am_iter_range h₁₂ (hput_self _ _ _) (small_of (by decide) (by decide) (by decide) (by decide) (.inl rfl)) fun it2 s₁₃ hit2 h₁₃ => ?_))))))
    have hDr2 : H4 Dr2 = none := hDr2
    have kq1 : Kp H4 (hput H4 Dr2 (.raw (rngObj 0 4 1 t2 u2 w2))) := (Kp.refl H4).new hDr2
    have it20 : H4 it2 = none := kq1.no hit2
    have kq2 := kq1.new (o := .it (.range 0 (Builtin.Range.rangeSize 0 4 1) 1)) hit2
    have hi3 : hput (hput H4 Dr2 (.raw (rngObj 0 4 1 t2 u2 w2))) it2 (.it (.range 0 (Builtin.Range.rangeSize 0 4 1) 1)) it2 = some (.it (.range 0 (Builtin.Range.rangeSize 0 ((4 : Nat) : Int) 1) 1)) := hput_self _ _ _
    have h₁₃ : At fPaths C' ⟨[], hput (hput H4 Dr2 (.raw (rngObj 0 4 1 t2 u2 w2))) it2 (.it (.range 0 (Builtin.Range.rangeSize 0 4 1) 1))⟩ s₁₃ := h₁₃
    generalize hput (hput H4 Dr2 (.raw (rngObj 0 4 1 t2 u2 w2))) it2 (.it (.range 0 (Builtin.Range.rangeSize 0 4 1) 1)) = H5 at h₁₃ kq2 hi3
    refine comp_range (n := n + 40) 4 (fun q xs _ => xs = (((List.range q).filter (pathP (j + 1))).map (pathV (j + 1))).map AV.int ∧ q ≤ 4) h₁₃ lf.hr hi3 rfl (by kernel_rfl!) (fun _ _ _ _ h _ => h) (fun _ => ⟨rfl, Nat.zero_le _⟩) (fun q xs _ e => ?_) (fun q C'' H'' D' xs' s' hq hw'' hca'' b hD' hd' ho hi' h' => ?_) fun D' H6 xs' b hD' hd' ho s₁₄ h₁₄ => ?_
    · rw [e.1, List.length_map, List.length_map]
      exact Nat.le_trans (List.length_filter_le _ _) (by simp; omega)
    · have r0 : C''.ca[0]? = some ci := by rw [hca'']; rfl
      have kk : ∀ {a ao}, H4 a = some ao → H'' a = some ao := fun {a ao} e => b a ao (fun z => by rw [List.mem_singleton.mp z, it20] at e; cases e) (kq2 a ao e)
      have os : (((List.range (q + 1)).filter (pathP (j + 1))).map (pathV (j + 1))) = if pathP (j + 1) q = true then ((List.range q).filter (pathP (j + 1))).map (pathV (j + 1)) ++ [pathV (j + 1) q] else ((List.range q).filter (pathP (j + 1))).map (pathV (j + 1)) := by
        rw [List.range_succ, List.filter_append, List.map_append]
        cases hq : pathP (j + 1) q <;> simp [hq]
      refine wp_tests1 (wp_tcmp (wp_binop (wp_binop (am_cell 0 h' rfl r0 (kk hc10) fun a1 b1 => am_local 0 h' rfl rfl fun a2 b2 => am_shr h' b1 b2 (by omega) fun a3 s₁ h₁ b3 => am_cint h₁ fun a4 s₂ h₂ b4 => am_band h₂ b3 b4 fun a5 s₃ h₃ b5 => am_cint h₃ fun a6 s₄ h₄ b6 => am_eq b5 b6 (am_truthy_bool ?_)))))
      show if pathP (j + 1) q = true then _ else _
      cases hp : pathP (j + 1) q with
      | true =>
        rw [if_pos rfl]
        refine wp_binop (wp_binop (am_cell 0 h₄ rfl r0 (kk hc10) fun a1 b1 => am_local 0 h₄ rfl rfl fun a2 b2 => am_shr h₄ b1 b2 (by omega) fun a3 s₅ h₅ b3 => am_local 0 h₅ rfl rfl fun a4 b4 => am_shl h₅ b3 b4 (by omega) (by omega) (i64 (j + 1) _ (by omega)) fun a5 s₆ h₆ b5 => ⟨H'', fun _ _ e => e, h₆, ?_, by omega⟩))
        rw [ho.1, os, hp, if_pos rfl, b5, List.map_append]; rfl
      | false =>
        rw [if_neg (by decide)]
        refine ⟨H'', fun _ _ e => e, h₄, ?_, by omega⟩
        rw [ho.1, os, hp, if_neg (by decide)]
    · have kp6 : Kp H4 H6 := fun a ao e => b a ao (fun z => by rw [List.mem_singleton.mp z, it20] at e; cases e) (kq2 a ao e)
      have hD'0 : H4 D' = none := kq2.no hD'
      have hd' : H6 D' = some (.list ((pathI (j + 1)).map AV.int)) := by rw [show (pathI (j + 1)).map AV.int = xs' from ho.1.symm]; exact hd'
      have nDD : D' ≠ D := fun z => by rw [z, hd10] at hD'0; cases hD'0
      have hd6 := kp6 _ _ hd10
      refine am_append h₁₄ hd6 (by have := S.1; simp at this; omega) fun s₁₅ h₁₅ => ⟨m, _, by omega, ⟨j + 1, hput H6 D (AO.list (xs ++ [AV.ref D'])), xs ++ [AV.ref D'], D' :: sa, some (.int (j + 1 : Nat)), by omega, rfl, ?_, put_keep (kp6 _ _ hi10) itD, hput_self _ _ _, put_keep (kp6 _ _ hc10) ciD, ?_, ?_, ?_⟩, h₁₅⟩
      · exact But.put (fun a ao na e => kp6 _ _ (bt10 a ao na e)) (.inr hD2)
      · have := ((S10.agree (kp6.ag _)).snoc hd')
        rw [List.range_succ, List.map_append]
        refine this.agree fun a ha ao e => put_keep e fun z => ?_
        rcases List.mem_cons.mp ha with q | q
        · exact nDD (q ▸ z)
        · exact nD (z ▸ q)
      · intro z
        rcases List.mem_cons.mp z with q | q
        · exact nDD q.symm
        · exact nD q
      · intro a ha
        rcases List.mem_cons.mp ha with rfl | q
        · exact ⟨_, put_keep hd' nDD⟩
        · obtain ⟨x, e⟩ := kn10 a q
          exact ⟨x, put_keep (kp6 _ _ e) fun z => nD (z ▸ q)⟩
end
end Mine

end
section
open PySem PySem.W PyProof.Rows PySem.Calls PyProof.Rows.LCg
set_option linter.unusedVariables false
namespace Mine
section
variable {F : FnS} {C : Cx} {σ : St} {s : Shared} {A : Around}
theorem am_owned {E : Value → Shared → Prop} {Q : Unit → Shared → Prop} {elts : List Expr} {k : Nat} {p : Pos} {it l0 : Addr} {j : Nat} {v : Value} (h : At F C σ s) (hit : σ.H it = some (.it (.list l0 j))) (q : Q () s) : wpAny (model PP C.w) A (letOwnedTupleGo (.Tuple elts k p) (.ref it) v) Q E s := by
  obtain ⟨o, ho, ⟨h1, h2⟩, _⟩ := h.get hit
  cases v with
  | ref a =>
    unfold letOwnedTupleGo
    refine wpAny_bind (wpAny_load ho ?_)
    rw [h1, h2]
    dsimp only
    rw [if_neg (by intro z; rw [Bool.and_eq_true] at z; exact absurd z.1 (by decide))]
    exact wpAny_pure q
  | _ => exact wpAny_pure q
/-- a loop over a list, its items unpacked -/
theorem cd_listT {R : Result → Shared → Prop} {elts : List Expr} {kk : Nat} {p : Pos} {body : List Stmt} {it l0 : Addr} (src : List AV) (I : Nat → St → Prop) (hh : A.handled = none) (stab : ∀ j σ k, I j σ → I j (σ.put it (.it k))) (stabd : ∀ j σ, I j σ → I j ⟨σ.m, hdel σ.H it⟩) (hsrc : ∀ j σ, I j σ → σ.H l0 = some (.list src))
    (turn : ∀ (T : Flow → Shared → Prop) j σ s v av, (∀ σ' s₃, I (j + 1) σ' → σ'.H it = some (.it (.list l0 (j + 1))) → At F C σ' s₃ → T .next s₃) → (∀ σ' s₃, I (j + 1) σ' → σ'.H it = some (.it (.list l0 (j + 1))) → At F C σ' s₃ → T .cont s₃) → (∀ s₃, R (.ok .next) s₃ → T .brk s₃) → (∀ v s₃, R (.ok (.ret v)) s₃ → T (.ret v) s₃) → src[j]? = some av → I j σ → At F C σ s → σ.H it = some (.it (.list l0 (j + 1))) → er v = av → Wp C.w A (assign (.Tuple elts kk p) C.env v) (fun _ s₂ => Wp C.w A (execs body C.env) T (fun _ _ => False) s₂) (fun _ _ => False) s)
    (fin : ∀ σ s, I src.length σ → At F C σ s → R (.ok .next) s) (h0 : I 0 σ) (hit : σ.H it = some (.it (.list l0 0))) (h : At F C σ s) : Cd C.w A (.forLoop (.Tuple elts kk p) (.ref it) body [] C.env) R s := by
  refine ⟨codeAny_forLoop_any (fun n s => ∃ σ₁, (∃ j, j + n = src.length ∧ σ₁.H it = some (.it (.list l0 j)) ∧ I j σ₁) ∧ At F C σ₁ s) (fun n s₁ hI => ?_) src.length ⟨σ, ⟨0, by omega, hit, h0⟩, h⟩⟩
  obtain ⟨σ₁, ⟨j, hj, hit', hI⟩, h₁⟩ := hI
  have hl := hsrc j σ₁ hI
  cases n with
  | zero =>
    have : j = src.length := by omega
    subst this
    exact (am_end_list h₁ hh hit' hl (Nat.le_refl _) fun s₂ h₂ => wpAny_execs_nil (fin _ _ (stabd _ _ hI) h₂) : Wp C.w A _ _ _ _).ok
  | succ n =>
    obtain ⟨av, hav⟩ : ∃ av, src[j]? = some av := ⟨_, List.getElem?_eq_getElem (by omega)⟩
    refine (am_next_list h₁ hit' hl hav fun v s₂ ev h₂ => ?_ : Wp C.w A _ _ _ _).ok
    have hI2 := stab j σ₁ (.list l0 (j + 1)) hI
    refine am_owned h₂ (hput_self _ _ _) ?_
    refine wpAny_mono (turn (fun f s₃ => match f with
      | .brk => R (.ok .next) s₃
      | .ret v => R (.ok (.ret v)) s₃
      | _ => ∃ σ', I (j + 1) σ' ∧ σ'.H it = some (.it (.list l0 (j + 1))) ∧ At F C σ' s₃) j _ s₂ v av (fun σ' _ x y z => ⟨σ', x, y, z⟩) (fun σ' _ x y z => ⟨σ', x, y, z⟩) (fun _ x => x) (fun _ _ x => x) hav hI2 h₂ (hput_self _ _ _) ev).ok (fun _ s₃ w₃ => wpAny_mono w₃.ok (fun f s₄ q => ?_) fun _ _ x => x.elim) fun _ _ x => x.elim
    cases f with
    | brk => exact q
    | ret v => exact q
    | next => obtain ⟨σ', q1, q2, q3⟩ := q; exact ⟨n, by omega, σ', ⟨j + 1, by omega, q2, q1⟩, q3⟩
    | cont => obtain ⟨σ', q1, q2, q3⟩ := q; exact ⟨n, by omega, σ', ⟨j + 1, by omega, q2, q1⟩, q3⟩
end
noncomputable def pathSum (td : List Int) (q : Nat) : Int := ((pathI (q + 1)).map fun i => td.getD (i - 1).toNat 0).sum
noncomputable def fSums : FnS := ⟨["path"], ["told"], [], ["sum"]⟩
noncomputable def fTold : FnS := ⟨["i"], ["told"], [], []⟩
theorem path_in : ∀ q : Nat, q < 8 → ∀ i ∈ pathI (q + 1), 1 ≤ i ∧ i ≤ ((q + 1 : Nat) : Int)
  | 0, _ => by decide
  | 1, _ => by decide
  | 2, _ => by decide
  | 3, _ => by decide
  | 4, _ => by decide
  | 5, _ => by decide
  | 6, _ => by decide
  | 7, _ => by decide
  | q + 8, h => by omega
theorem path_len (q : Nat) : (pathI q).length ≤ 4 := by
  unfold pathI; rw [List.length_map]
  exact Nat.le_trans (List.length_filter_le _ _) (by simp)
section
variable {C : Cx} {s : Shared} {A : Around} {n : Nat} {fs : List Env} {H : Addr → Option AO} {E : Value → Shared → Prop} {Q : Flow → Shared → Prop} {scr dl pl : Addr} {V : VIds} {names : List (List Nat)} {ds : DS} {xs pxs : List AV} {sa psa : List Addr} {v6 : Option AV} {msf : MS} {line : Int} {bxs : List AV} {ba : List Addr} {page tape : List Nat} {y5 y6 y7 y13 y14 y15 y16 : Option AV}
/-- what a page of the books tells -/
theorem told_spec {nn : Nat} {td row : List Int} {l : Addr} (h : At fLaw C ⟨lv scr dl V page tape y5 y6 y7 (some (.ref pl)) (some (.int nn)) y15 y16, H⟩ s) (lf : LFr C A fs n V.i.cs) (L : LV V names ds xs sa (some (.ref l)) msf line bxs ba H) (hpl : H pl = some (.list pxs)) (P : SumsAt H pxs ((List.range names.length).map fun q => pathI (q + 1)) psa) (hn : names.length ≤ 8)
    (htd : td.length = names.length) (hl : H l = some (.list (td.map AV.int))) (hrow : ds.sums[nn]? = some row) (hsum : (List.range names.length).map (pathSum td) = row) (hsz : ds.sums.length ≤ 1000)
    (k : ∀ H' s', At fLaw C ⟨lv scr dl V page tape y5 y6 y7 (some (.ref pl)) (some (.int nn)) y15 y16, H'⟩ s' → Kp H H' → Q .next s') :
    Wp C.w A (execs (forB (nth bLaw 11)) C.env) Q (fun _ _ => False) s := by
  have ca6 : C.ca[6]? = some V.i.c6 := by rw [lf.ca]; rfl
  have ca2 : C.ca[2]? = some V.i.c2 := by rw [lf.ca]; rfl
  have plen : pxs.length = names.length := by rw [P.1]; simp
  refine wp_cons (wp_if (wp_tcmp (am_lcomp (F' := fSums) ["told"] [V.i.c6] h.env (by kernel_rfl!) (.cons 6 rfl ca6 .nil) (am_local 13 h rfl rfl fun v e => ?_))))
  cases er_ref e
  refine am_iter_list h hpl fun it s₁ hit h₁ => ?_
  have it0 : H it = none := hit
  have kp1 := (Kp.refl H).new (o := .it (.list pl 0)) it0
  have hi1 : hput H it (.it (.list pl 0)) it = some (.it (.list pl 0)) := hput_self _ _ _
  have h₁ : At fLaw C ⟨lv scr dl V page tape y5 y6 y7 (some (.ref pl)) (some (.int nn)) y15 y16, hput H it (.it (.list pl 0))⟩ s₁ := h₁
  generalize hput H it (.it (.list pl 0)) = H1 at h₁ kp1 hi1
  refine comp_list (n := n + 40) pxs (fun j xs' _ => xs' = ((List.range j).map (pathSum td)).map AV.int ∧ j ≤ names.length) h₁ lf.hr hi1 (kp1 _ _ hpl) rfl (by kernel_rfl!) (fun _ _ _ _ h _ => h) (fun _ => ⟨rfl, Nat.zero_le _⟩) (fun j xs _ e => by rw [e.1]; simp; omega) (fun j av C' H' D xs' s' hx hw hca b hD hd ho hi h' => ?_) fun D H2 xs' b hD hd ho s₂ h₂ => ?_
  · have hj : j < names.length := by have := (List.getElem?_eq_some_iff.mp hx).1; omega
    obtain ⟨a, q1, q2, q3⟩ := P.2 j (pathI (j + 1)) (by rw [List.getElem?_map, List.getElem?_range hj]; rfl)
    rw [q1] at hx
    cases hx
    have r0 : C'.ca[0]? = some V.i.c6 := by rw [hca]; rfl
    have kk : ∀ {a ao}, H a = some ao → H' a = some ao := fun {a ao} e => b a ao (fun z => by rw [List.mem_singleton.mp z, it0] at e; cases e) (kp1 a ao e)
    refine wp_tests0 ?_
    rw [if_pos rfl]
    refine wp_callx (am_bltn (v := .builtin "sum") 0 h' rfl (by kernel_rfl!) (by kernel_rfl!) (by decide) (wp_bargs (wp_sp (am_lcomp (F' := fTold) ["told"] [V.i.c6] h'.env (by kernel_rfl!) (.cons 0 rfl r0 .nil) (am_local 0 h' rfl rfl fun v e => ?_)))))
    cases er_ref e
    refine am_iter_list h' (kk q3) fun it2 s₂ hit2 h₂ => ?_
    have it20 : H' it2 = none := hit2
    have kp2 := (Kp.refl H').new (o := .it (.list a 0)) it20
    have hi2 : hput H' it2 (.it (.list a 0)) it2 = some (.it (.list a 0)) := hput_self _ _ _
    have h₂ : At fSums C' ⟨[some (.ref a)], hput H' it2 (.it (.list a 0))⟩ s₂ := h₂
    generalize hput H' it2 (.it (.list a 0)) = H2 at h₂ kp2 hi2
    refine comp_list (n := n + 40) ((pathI (j + 1)).map AV.int) (fun q xs' _ => xs' = (((pathI (j + 1)).take q).map fun i => td.getD (i - 1).toNat 0).map AV.int) h₂ lf.hr hi2 (kp2 _ _ (kk q3)) rfl (by kernel_rfl!) (fun _ _ _ _ h _ => h) (fun _ => by simp) (fun q xs _ e => by rw [e]; have := path_len (j + 1); simp; omega) (fun q av C'' H'' D' xs'' s' hx' hw' hca' b' hD' hd' ho' hi' h'' => ?_) fun D' H3 xs'' b' hD' hd' ho' s₃ h₃ => ?_
    · obtain ⟨x, hx2, rfl⟩ : ∃ x, (pathI (j + 1))[q]? = some x ∧ av = .int x := by
        rw [List.getElem?_map] at hx'
        obtain ⟨x, h1, h2⟩ := Option.map_eq_some_iff.mp hx'
        exact ⟨x, h1, h2.symm⟩
      obtain ⟨x1, x2⟩ := path_in j (by omega) x (List.mem_of_getElem? hx2)
      have t0 : C''.ca[0]? = some V.i.c6 := by rw [hca']; rfl
      have kk2 : ∀ {a ao}, H a = some ao → H'' a = some ao := fun {a ao} e => b' a ao (fun z => by have := kk e; rw [List.mem_singleton.mp z, it20] at this; cases this) (kp2 a ao (kk e))
      refine wp_tests0 ?_
      rw [if_pos rfl]
      refine wp_sub (am_cell 0 h'' rfl t0 (kk2 L.c6) fun v e => ?_)
      cases er_ref e
      have hxx : (td.map AV.int)[(x - 1).toNat]? = some (.int (td.getD (x - 1).toNat 0)) := by
        have : (x - 1).toNat < td.length := by omega
        rw [List.getElem?_map, List.getD_eq_getElem?_getD, List.getElem?_eq_getElem this]; rfl
      refine wp_binop (am_local 0 h'' rfl rfl fun v1 e1 => am_cint h'' fun v2 s₄ h₄ e2 => am_sub h₄ e1 e2 fun v3 s₅ h₅ e3 => am_tailitem h₅ (.inl (kk2 hl)) e3 (by omega) hxx (by omega) fun v4 e4 => ⟨H'', fun _ _ e => e, h₅, ?_⟩)
      have et : (pathI (j + 1)).take (q + 1) = (pathI (j + 1)).take q ++ [x] := by rw [List.take_add_one (l := pathI (j + 1)) (i := q), hx2]; rfl
      rw [ho', e4, et, List.map_append, List.map_append]; rfl
    · have kp3 : Kp H' H3 := fun a ao e => b' a ao (fun z => by rw [List.mem_singleton.mp z, it20] at e; cases e) (kp2 a ao e)
      have hd' : H3 D' = some (.list (((pathI (j + 1)).map fun i => td.getD (i - 1).toNat 0).map AV.int)) := by
        rw [ho'] at hd'
        rw [List.length_map, List.take_length] at hd'
        exact hd'
      refine wp_sp0 (am_sum h₃ lf.hr.hand hd' fun v4 s₄ h₄ e4 => ⟨H3, kp3, h₄, ?_, by omega⟩)
      rw [ho.1, e4, List.range_succ, List.map_append, List.map_append]; rfl
  · have kp2 : Kp H H2 := fun a ao e => b a ao (fun z => by rw [List.mem_singleton.mp z, it0] at e; cases e) (kp1 a ao e)
    have L2 := L.kp kp2
    have hd : H2 D = some (.list (row.map AV.int)) := by
      rw [ho.1, plen, hsum] at hd; exact hd
    refine wp_sub (am_cell 2 h₂ rfl ca2 L2.c2 fun v e => ?_)
    cases er_ref e
    obtain ⟨ra, r1, r2, r3⟩ := L2.S.2 nn row hrow
    have hnn : nn < ds.sums.length := (List.getElem?_eq_some_iff.mp hrow).1
    refine am_local 14 h₂ rfl rfl fun v2 e2 => am_tailitem h₂ (.inl L2.sl) e2 (by omega) (by simpa using r1) (by omega) fun v3 e3 => ?_
    cases er_ref e3
    have ok : ∀ d ∈ row.map W.Dat.int, kqdOk 8 d = true := fun d hd => by
      obtain ⟨i, _, rfl⟩ := List.mem_map.mp hd
      exact kqd_int i
    refine am_lne (n := n) h₂ hd r3 (adats_ints _) (adats_ints _) ok ok (lf.hr.cast (by omega)) (am_truthy_bool ?_)
    rw [if_neg (by simp)]
    exact wp_nil (wp_nil (k H2 s₂ h₂ kp2))
end
end Mine

end
section
open PySem PySem.W PyProof.Rows PySem.Calls PyProof.Rows.LCg
set_option linter.unusedVariables false
namespace Mine
theorem kp_put6 {H H' : Addr → Option AO} {c : Addr} {w w' : Option AV} (k : Kp (hput H c (.cell w)) H') : Kp (hput H c (.cell w')) (hput H' c (.cell w')) := fun a ao e => by
  by_cases z : a = c
  · subst z; rw [hput_self] at e ⊢; exact e
  · rw [hput_ne z] at e ⊢
    exact k a ao (by rw [hput_ne z]; exact e)
section
variable {C : Cx} {s : Shared} {A : Around} {n : Nat} {fs : List Env} {H : Addr → Option AO} {E : Value → Shared → Prop} {Q : Flow → Shared → Prop} {scr dl pl : Addr} {V : VIds} {names : List (List Nat)} {ds : DS} {xs pxs : List AV} {sa psa : List Addr} {v6 : Option AV} {msf : MS} {line : Int} {bxs : List AV} {ba : List Addr} {page tape : List Nat} {y5 y6 y7 y13 y14 y15 y16 : Option AV}
theorem books_spec (h : At fLaw C ⟨lv scr dl V page tape y5 y6 y7 (some (.ref pl)) y14 y15 y16, H⟩ s) (lf : LFr C A fs n V.i.cs) (L : LV V names ds xs sa v6 msf line bxs ba H) (hpl : H pl = some (.list pxs)) (P : SumsAt H pxs ((List.range names.length).map fun q => pathI (q + 1)) psa) (pkn : ∀ a ∈ psa, ∃ xs, H a = some (.list xs)) (hn : names.length ≤ 8) (hsz : ds.sums.length ≤ 1000)
    (hall : ∀ nn td, (nn, td) ∈ msf.books → td.length = names.length ∧ ∃ row, ds.sums[nn]? = some row ∧ (List.range names.length).map (pathSum td) = row)
    (k : ∀ H' s' y14' w, At fLaw C ⟨lv scr dl V page tape y5 y6 y7 (some (.ref pl)) y14' y15 y16, H'⟩ s' → LV V names ds xs sa w msf line bxs ba H' → Q .next s') :
    Wp C.w A (exec (nth bLaw 11) C.env) Q E s := by
  have ca6 : C.ca[6]? = some V.i.c6 := by rw [lf.ca]; rfl
  refine wp_for (am_local 8 h rfl rfl fun v e => ?_)
  cases er_ref e
  refine am_iter_list h L.bk fun it s₁ hit h₁ => ?_
  have it0 : H it = none := hit
  have itc : it ≠ V.i.c6 := fun z => by have := L.c6; rw [← z, it0] at this; cases this
  have itw : ∀ w, hput H V.i.c6 (.cell w) it = none := fun w => by rw [hput_ne itc]; exact it0
  have kp0 : Kp (hput H V.i.c6 (.cell v6)) (hput H it (.it (.list V.bk 0))) := fun a ao e => by
    have : H a = some ao := by
      by_cases z : a = V.i.c6
      · subst z; rw [hput_self] at e; rw [L.c6]; exact e
      · rw [hput_ne z] at e; exact e
    exact put_new this it0
  have at6 : ∀ {a ao} w, H a = some ao → (∀ v, ao ≠ .cell v) → hput H V.i.c6 (.cell w) a = some ao := fun {a ao} w e n => put_keep e (ne_of e L.c6 (n _))
  refine cd_listT (F := fLaw) bxs (fun j σ => ∃ y14 w H', σ = ⟨lv scr dl V page tape y5 y6 y7 (some (.ref pl)) y14 y15 y16, H'⟩ ∧ Kp (hput H V.i.c6 (.cell w)) H') lf.hr.hand (fun j σ kk hI => ?_) (fun j σ hI => ?_) (fun j σ hI => ?_) (fun T j σ s v av tn tc tb tr hav hI h₂ hi ev => ?_) (fun σ s hI h₂ => ?_) ⟨y14, v6, _, rfl, kp0⟩ (hput_self _ _ _) h₁
  · obtain ⟨y14, w, H', rfl, kp⟩ := hI
    exact ⟨y14, w, _, rfl, kp.upd (itw w)⟩
  · obtain ⟨y14, w, H', rfl, kp⟩ := hI
    exact ⟨y14, w, _, rfl, kp.del (itw w)⟩
  · obtain ⟨y14, w, H', rfl, kp⟩ := hI
    exact kp _ _ (at6 w L.bk fun _ => nofun)
  · obtain ⟨y14, w, H', rfl, kp⟩ := hI
    have hj : j < msf.books.length := by rw [← L.bks.1]; exact (List.getElem?_eq_some_iff.mp hav).1
    obtain ⟨nn, td, hb⟩ : ∃ nn td, msf.books[j]? = some (nn, td) := ⟨(msf.books[j]).1, (msf.books[j]).2, List.getElem?_eq_getElem hj⟩
    obtain ⟨a, l, q1, q2, q3, q4, q5⟩ := L.bks.2 j nn td hb
    rw [q1] at hav
    cases hav
    cases er_ref ev
    obtain ⟨htd, row, hrow, hsum⟩ := hall nn td (List.mem_of_getElem? hb)
    have hc6' := kp V.i.c6 _ (hput_self _ _ _)
    refine am_untuple h₂ lf.hr.hand (kp _ _ (at6 w q4 fun _ => nofun)) rfl rfl fun vs s₃ evs h₃ => ?_
    obtain ⟨v1, v2, rfl, ev1, ev2⟩ := ers2 evs
    refine wp_ino (wp_asgn (am_store 14 h₃ rfl fun s₄ h₄ => wp_ino (wp_asgn (am_storecell 6 h₄ rfl ca6 hc6' fun s₅ h₅ => wp_ino0 ?_))))
    rw [ev2] at h₅
    have h₅ : At fLaw C ⟨lv scr dl V page tape y5 y6 y7 (some (.ref pl)) (some (er v1)) y15 y16, hput H' V.i.c6 (.cell (some (.ref l)))⟩ s₅ := h₅
    rw [ev1] at h₅
    have kp6 := kp_put6 (w' := some (.ref l)) kp
    have L6 := (L.put6 (some (.ref l))).kp kp6
    have hit6 : hput H' V.i.c6 (.cell (some (.ref l))) it = some (.it (.list V.bk (j + 1))) := by rw [hput_ne itc]; exact hi
    generalize hput H' V.i.c6 (.cell (some (.ref l))) = H6 at h₅ kp6 L6 hit6
    refine told_spec h₅ lf L6 (kp6 _ _ (at6 _ hpl fun _ => nofun)) (P.agree fun b hb ao e => ?_) hn htd (kp6 _ _ (at6 _ q5 fun _ => nofun)) hrow hsum hsz fun H7 s₆ h₆ kp7 => tn _ _ ⟨_, some (.ref l), H7, rfl, kp6.trans kp7⟩ (kp7 _ _ hit6) h₆
    obtain ⟨x, e'⟩ := pkn b hb
    have : ao = .list x := Option.some.inj (e.symm.trans e')
    subst this
    exact kp6 _ _ (at6 _ e fun _ => nofun)
  · obtain ⟨y14, w, H', rfl, kp⟩ := hI
    exact k H' s y14 w h₂ ((L.put6 w).kp kp)
noncomputable def fSign : FnS := ⟨["sign"], [], [], []⟩
noncomputable def fNum : FnS := ⟨["number"], [], [], ["isinstance", "int", "bool"]⟩
theorem lines_spec (h : At fLaw C ⟨lv scr dl V page tape y5 y6 y7 y13 y14 y15 y16, H⟩ s) (lf : LFr C A fs n V.i.cs) (hp : page.all (· < 128) = true) (hpl : page.length ≤ 10000)
    (k : ∀ H' s', At fLaw C ⟨lv scr dl V page tape y5 y6 y7 y13 y14 (some (.int (1 + (page.count 10 : Nat)))) y16, H'⟩ s' → Kp H H' → Q .next s') :
    Wp C.w A (exec (nth bLaw 12) C.env) Q E s := by
  refine wp_assign (wp_binop (am_cint h fun ov s₁ h₁ eo => wp_callx (am_bltn (v := .builtin "len") 0 h₁ rfl (by kernel_rfl!) (by kernel_rfl!) (by decide) (wp_bargs (wp_sp (am_lcomp (F' := fSign) [] [] h₁.env (by kernel_rfl!) .nil (am_local 3 h₁ rfl rfl fun v e => am_iter_str h₁ e hp fun it s₂ hit h₂ => ?_)))))))
  have it0 : H it = none := hit
  have kp1 := (Kp.refl H).new (o := .it (.str page 0)) it0
  refine comp_str (n := n + 40) page (fun j xs' _ => xs' = ((page.take j).filter (· == 10)).map fun c => AV.str [c]) h₂ lf.hr (hput_self _ _ _) rfl (by kernel_rfl!) (fun _ _ _ _ h _ => h) (fun _ => by simp) (fun j xs _ e => by rw [e, List.length_map]; exact Nat.le_trans (List.length_filter_le _ _) (by rw [List.length_take]; omega)) (fun j c C' H' D xs' s' hx hw hca b hD hd ho hi h' => ?_) fun D H2 xs' b hD hd ho s₃ h₃ => ?_
  · have et : (page.take (j + 1)).filter (· == 10) = (page.take j).filter (· == 10) ++ if c == 10 then [c] else [] := by
      rw [List.take_add_one, hx, List.filter_append]
      cases hq : c == 10 <;> simp [hq]
    refine wp_tests1 (wp_tcmp (am_local 0 h' rfl rfl fun v1 e1 => am_cstr h' fun v2 s₄ h₄ e2 => am_seq e1 e2 (am_truthy_bool ?_)))
    have eq1 : ([c] == (Str.ofString "\n").cps.toList) = (c == 10) := by
      show ([c] == [10]) = _
      by_cases z : c = 10
      · subst z; rfl
      · simp [z]
    rw [eq1]
    cases hq : (c == 10) with
    | true =>
      rw [if_pos rfl]
      exact am_local 0 h₄ rfl rfl fun v3 e3 => ⟨H', fun _ _ e => e, h₄, by rw [ho, et, hq, e3, if_pos rfl, List.map_append]; rfl⟩
    | false =>
      rw [if_neg (by decide)]
      exact ⟨H', fun _ _ e => e, h₄, by rw [ho, et, hq, if_neg (by decide), List.append_nil]⟩
  · have kp2 : Kp H H2 := fun a ao e => b a ao (fun z => by rw [List.mem_singleton.mp z, it0] at e; cases e) (kp1 a ao e)
    rw [List.take_length] at ho
    have hc : xs'.length = page.count 10 := by rw [ho, List.length_map, List.count_eq_length_filter]
    refine wp_sp0 (am_len h₃ hd (by rw [hc]; exact Nat.le_trans (List.count_le_length) (by omega)) fun lv' s₄ h₄ el => am_add h₄ eo el fun v5 s₅ h₅ e5 => am_store 15 h₅ rfl fun s₆ h₆ => ?_)
    rw [e5, hc] at h₆
    exact k H2 s₆ h₆ kp2
theorem odd_spec (h : At fLaw C ⟨lv scr dl V page tape y5 y6 y7 y13 y14 y15 y16, H⟩ s) (lf : LFr C A fs n V.i.cs) (L : LV V names ds xs sa v6 msf line bxs ba H) (hn : names.length ≤ 8)
    (k : ∀ H' s' ol, At fLaw C ⟨lv scr dl V page tape y5 y6 y7 y13 y14 y15 (some (.ref ol)), H'⟩ s' → Kp H H' → H' ol = some (.list []) → Q .next s') :
    Wp C.w A (exec (nth bLaw 13) C.env) Q E s := by
  have tl : (told msf.offs names.length).length = names.length := by unfold told; simp
  refine am_lcompA (F' := fNum) 16 [] [] h.env (by kernel_rfl!) .nil rfl (swaps_true h.env.kind (h.env.nm 16 "odd" rfl).1 rfl rfl) (wp_binop (am_local 12 h rfl rfl fun v e => ?_))
  cases er_ref e
  refine wp_list (wp_sp (wp_sub (am_local 10 h rfl rfl fun v e => ?_)))
  cases er_ref e
  refine am_cint h fun iv s₁ h₁ ei => am_tailitem h₁ (.inl L.e) ei (by decide) rfl (by decide) fun lv' el => wp_sp0 (am_newlist h₁ (by simp) fun D s₂ hD h₂ => ?_)
  have hD0 : H D = none := hD
  rw [show List.map er [lv'] = [er lv'] from rfl, el] at h₂
  have kp1 := (Kp.refl H).new (o := .list [.int line]) hD0
  refine am_ladd h₂ (kp1 _ _ L.la) (hput_self _ _ _) (by rw [List.length_map, tl]; simp; omega) fun D2 s₃ hD2 h₃ => am_iter_list h₃ (hput_self _ _ _) fun it s₄ hit h₄ => ?_
  have hD20 : hput H D (.list [.int line]) D2 = none := hD2
  have es : (told msf.offs names.length).map AV.int ++ [AV.int line] = (told msf.offs names.length ++ [line]).map AV.int := by rw [List.map_append]; rfl
  have kp2 := kp1.new (o := .list ((told msf.offs names.length).map AV.int ++ [AV.int line])) hD20
  have it1 : hput (hput H D (.list [.int line])) D2 (.list ((told msf.offs names.length).map AV.int ++ [AV.int line])) it = none := hit
  have it0 : H it = none := kp2.no it1
  have kp3 := kp2.new (o := .it (.list D2 0)) it1
  have g3 : hput (hput (hput H D (.list [.int line])) D2 (.list ((told msf.offs names.length).map AV.int ++ [AV.int line]))) it (.it (.list D2 0)) D2 = some (.list ((told msf.offs names.length ++ [line]).map AV.int)) := by
    rw [← es]; exact put_new (hput_self _ _ _) it1
  have g4 : hput (hput (hput H D (.list [.int line])) D2 (.list ((told msf.offs names.length).map AV.int ++ [AV.int line]))) it (.it (.list D2 0)) it = some (.it (.list D2 0)) := hput_self _ _ _
  have h₄ : At fLaw C ⟨lv scr dl V page tape y5 y6 y7 y13 y14 y15 y16, hput (hput (hput H D (.list [.int line])) D2 (.list ((told msf.offs names.length).map AV.int ++ [AV.int line]))) it (.it (.list D2 0))⟩ s₄ := h₄
  generalize hput (hput (hput H D (.list [.int line])) D2 (.list ((told msf.offs names.length).map AV.int ++ [AV.int line]))) it (.it (.list D2 0)) = H4 at h₄ kp3 g3 g4
  refine comp_list (n := n + 40) ((told msf.offs names.length ++ [line]).map AV.int) (fun j xs' _ => xs' = []) h₄ lf.hr g4 g3 rfl (by kernel_rfl!) (fun _ _ _ _ h _ => h) (fun _ => rfl) (fun j xs _ e => by rw [e]; simp) (fun j av C' H' D' xs' s' hx hw hca b hD' hd ho hi h' => ?_) fun ol H5 xs' b hol hd ho s₅ h₅ => ?_
  · obtain ⟨x, _, rfl⟩ : ∃ x, (told msf.offs names.length ++ [line])[j]? = some x ∧ av = .int x := by
      rw [List.getElem?_map] at hx
      obtain ⟨x, h1, h2⟩ := Option.map_eq_some_iff.mp hx
      exact ⟨x, h1, h2.symm⟩
    refine wp_tests1 (wp_tor (wp_tnot (wp_tplain (wp_callx (am_bltn (v := .builtin "isinstance") 0 h' rfl (by kernel_rfl!) (by kernel_rfl!) (by decide) (wp_bargs (wp_sp (am_local 0 h' rfl rfl fun v1 e1 => wp_sp (am_bltn (v := .type "int") 1 h' rfl (by kernel_rfl!) (by kernel_rfl!) (by decide) (wp_sp0 (am_isint e1 (am_truthy_bool ?_))))))))))))
    rw [if_neg (by decide)]
    refine wp_tor (wp_tplain (wp_callx (am_bltn (v := .builtin "isinstance") 0 h' rfl (by kernel_rfl!) (by kernel_rfl!) (by decide) (wp_bargs (wp_sp (am_local 0 h' rfl rfl fun v1 e1 => wp_sp (am_bltn (v := .type "bool") 2 h' rfl (by kernel_rfl!) (by kernel_rfl!) (by decide) (wp_sp0 (am_isbool h' e1 fun s₆ h₆ => am_truthy_bool ?_)))))))))
    rw [if_neg (by decide)]
    refine wp_tor0 ?_
    rw [if_neg (by decide)]
    exact ⟨H', fun _ _ e => e, h₆, ho⟩
  · subst ho
    exact k H5 s₅ ol h₅ (fun a ao e => b a ao (fun z => by rw [List.mem_singleton.mp z, it0] at e; cases e) (kp3 a ao e)) hd
theorem last_spec {ol : Addr} (h : At fLaw C ⟨lv scr dl V page tape y5 y6 y7 y13 y14 (some (.int line)) (some (.ref ol)), H⟩ s) (lf : LFr C A fs n V.i.cs) (L : LV V names ds xs sa v6 msf line bxs ba H) (hol : H ol = some (.list []))
    (k : ∀ σ' s', At fLaw C σ' s' → TabAt σ'.H 140 → TabAt σ'.H 147 → Q (.ret (.bool true)) s') :
    Wp C.w A (exec (nth bLaw 14) C.env) Q E s := by
  refine wp_ret (wp_and (wp_cmp (am_local 16 h rfl rfl fun v e => ?_)))
  cases er_ref e
  refine wp_list (wp_sp0 (am_newlist h (Nat.zero_le _) fun D s₁ hD h₁ => ?_))
  have hD0 : H D = none := hD
  have kp1 := (Kp.refl H).new (o := .list []) hD0
  refine am_leq (n := n) h₁ (kp1 _ _ hol) (hput_self _ _ _) (ds := []) (es := []) .nil .nil (fun d hd => by cases hd) (fun d hd => by cases hd) (lf.hr.cast (by omega)) (am_truthy_bool ?_)
  rw [if_pos (by simp)]
  refine wp_and1 (wp_cmp (am_local 10 h₁ rfl rfl fun v e => ?_))
  cases er_ref e
  refine wp_list (wp_sp (am_cstr h₁ fun a1 s₂ h₂ b1 => wp_sp (am_cstr h₂ fun a2 s₃ h₃ b2 => wp_sp (am_local 15 h₃ rfl rfl fun a3 b3 => wp_sp (am_cnone (wp_sp (am_cnone (wp_sp (am_cstr h₃ fun a6 s₆ h₆ b6 => wp_sp (am_cstr h₆ fun a7 s₇ h₇ b7 => wp_sp (am_cstr h₇ fun a8 s₈ h₈ b8 => wp_sp0 (am_newlist h₈ (by simp) fun D2 s₉ hD2 h₉ => ?_))))))))))))
  rw [show List.map er [a1, a2, a3, Value.none, Value.none, a6, a7, a8] = [er a1, er a2, er a3, .none, .none, er a6, er a7, er a8] from rfl, b1, b2, b3, b6, b7, b8] at h₉
  have hD20 : hput H D (.list []) D2 = none := hD2
  have kp2 := kp1.new (o := .list [.str [], .str [], .int line, .none, .none, .str (Str.ofString "closed for late").cps.toList, .str flushL, .str closeL]) hD20
  have de : ∀ H' : Addr → Option AO, ADats H' [.str [], .str [], .int line, .none, .none, .str (Str.ofString "closed for late").cps.toList, .str flushL, .str closeL] [.str ⟨([] : List Nat).toArray⟩, .str ⟨([] : List Nat).toArray⟩, .int line, .none, .none, .str ⟨(Str.ofString "closed for late").cps.toList.toArray⟩, .str ⟨flushL.toArray⟩, .str ⟨closeL.toArray⟩] := fun H' =>
    .cons (.str _) (.cons (.str _) (.cons (.int _) (.cons .none (.cons .none (.cons (.str _) (.cons (.str _) (.cons (.str _) .nil)))))))
  have ok : ∀ d ∈ ([.str ⟨([] : List Nat).toArray⟩, .str ⟨([] : List Nat).toArray⟩, .int line, .none, .none, .str ⟨(Str.ofString "closed for late").cps.toList.toArray⟩, .str ⟨flushL.toArray⟩, .str ⟨closeL.toArray⟩] : List W.Dat), kqdOk 8 d = true := fun d hd => by
    revert d hd
    exact allC (kqd_str (by simp)) <| allC (kqd_str (by simp)) <| allC rfl <| allC rfl <| allC rfl <| allC (kqd_str (by decide)) <| allC (kqd_str (by decide)) <| allC (kqd_str (by decide)) allN
  have he : H V.e = some (.list [.str [], .str [], .int line, .none, .none, .str (Str.ofString "closed for late").cps.toList, .str flushL, .str closeL]) := L.e
  refine am_leq (n := n) h₉ (kp2 _ _ he) (hput_self _ _ _) (de _) (de _) ok ok (lf.hr.cast (by omega)) ?_
  have hq : ∀ b : Bool, b = true → Q (.ret (.bool b)) s₉ := fun b hb => by
    subst hb
    have L9 := L.kp kp2
    exact k _ _ h₉ L9.t140 L9.t147
  exact hq _ (by simp)
end
end Mine

end
section
open PySem PySem.W PyProof.Rows PySem.Calls PyProof.Rows.LCg
set_option linter.unusedVariables false
namespace Mine
noncomputable def dsL (ns : List Int) : DS := buildL (namesL ns) (roomI ns) ((drawn ns).drop 1)
noncomputable def pageL (ns : List Int) : List Nat := finalPage (d0 ns) (dsL ns).page
/-- the plain law: what the machine makes of what was built -/
structure PureOk (ns : List Int) (msf : MS) : Prop where
  run : runM (namesL ns) (1 + d0 ns % 3) (roomI ns) 60 (ms0 (pageL ns) (roomI ns)) = some ([], msf)
  pb : msf.pb = []
  rest : msf.rest = []
  whole : msf.signs.flatten = (dsL ns).whole
  rests : msf.refused = (dsL ns).rests
  last : ∃ pre, msf.books = pre ++ [((dsL ns).whole.length, told msf.offs (namesL ns).length)]
  all : ∀ nn td, (nn, td) ∈ msf.books → td.length = (namesL ns).length ∧ ∃ row, (dsL ns).sums[nn]? = some row ∧ (List.range (namesL ns).length).map (pathSum td) = row
  p128 : (pageL ns).all (· < 128) = true
  rok : StrsOk (dsL ns).rests
  bkl : msf.books.length ≤ 1000
theorem Lg.swap {H : Addr → Option AO} {p q : Addr × AO} {l : List (Addr × AO)} (L : Lg E0 [] H (p :: q :: l)) : Lg E0 [] H (q :: p :: l) :=
  ⟨by
    have h := L.nd
    simp only [List.map_cons] at h ⊢
    exact (List.Perm.swap _ _ _).nodup_iff.mp h, fun r hr => L.at' r (by
    simp only [List.mem_cons] at hr ⊢
    rcases hr with h | h | h
    · exact .inr (.inl h)
    · exact .inl h
    · exact .inr (.inr h)), fun _ _ => .inr rfl, fun a ha => (by cases ha), fun a ao _ e => (by cases e)⟩
theorem names_short (ns : List Int) : ∀ x ∈ namesL ns, x.length ≤ 3 := fun x hx => by
  have := List.mem_of_mem_take hx
  simp only [allNames, List.mem_cons, List.not_mem_nil, or_false] at this
  rcases this with rfl | rfl | rfl | rfl | rfl | rfl | rfl | rfl <;> decide
section
variable {C : Cx} {s : Shared} {A : Around} {n : Nat} {fs : List Env} {H : Addr → Option AO} {E : Value → Shared → Prop} {Q : Flow → Shared → Prop} {scr c0 c1 c2 c3 c4 c5 c6 : Addr} {ns : List Int} {vs : List Value} {msf : MS}
theorem law_walk (h : At fLaw C ⟨lm scr none none none none none none none none none none none none none none none none, H⟩ s) (lf : LFr C A fs n [c0, c1, c2, c3, c4, c5, c6]) (hscr : C.g.IsList scr vs.toArray) (hv : vs.map er = ns.map AV.int) (hns : ns.length ≤ 63)
    (G : Lg E0 [] H [(c0, .cell none), (c1, .cell none), (c2, .cell none), (c3, .cell none), (c4, .cell none), (c5, .cell none), (c6, .cell none), (140, .raw (tabObj #[])), (147, .raw (tabObj #[]))])
    (P : PureOk ns msf) (k : ∀ σ' s', At fLaw C σ' s' → TabAt σ'.H 140 → TabAt σ'.H 147 → Q (.ret (.bool true)) s') :
    Wp C.w A (execs bLaw C.env) Q E s := by
  have nl8 := nN_le ns
  have nlen := names_len ns
  have rle := room_le ns
  have B := DSok.fold (room := roomI ns) (by omega) (names_short ns) ((drawn ns).drop 1) (DSok.start (namesL ns))
  have l5 : ((drawn ns).drop 1).length = 5 := by rw [List.length_drop, drawn_len]
  rw [l5, Nat.zero_add] at B
  obtain ⟨B1, B2, B3, B4, B5⟩ := B
  have hpl : (pageL ns).length ≤ 1000 := by
    have := finalPage_len (d0 ns) (dsL ns).page
    unfold pageL dsL buildL at *
    omega
  refine law_init h lf hscr hv hns G fun H1 s₁ dl nl rl sl z h₁ G1 => ?_
  have hdl := G1.get 4 rfl
  have hdsl := G1.ne 4 0 rfl rfl (by decide)
  have hz := G1.get 1 rfl
  have hzs := G1.ne 0 1 rfl rfl (by decide)
  have G2 := (G1.drop (l' := [(sl, .list [.ref z]), (rl, .list []), (nl, .list ((namesL ns).map AV.str)), (c0, .cell (some (.int (roomI ns)))), (c1, .cell (some (.str []))), (c2, .cell (some (.ref sl))), (c3, .cell none), (c4, .cell none), (c5, .cell none), (c6, .cell none), (140, .raw (tabObj #[])), (147, .raw (tabObj #[]))]) (.cons_cons _ (.cons _ (.cons_cons _ (.cons_cons _ (.cons _ (.refl _))))))).swap
  have L1 : LS ⟨c0, c1, c2, c3, c4, c5, c6, nl, sl⟩ (namesL ns) (roomI ns) (ds0 (namesL ns)) rl [.ref z] [z] none none none none H1 := by
    refine ⟨G2, ⟨rfl, fun i v e => ?_⟩, fun q => hzs (List.mem_singleton.mp q), fun a ha => by rw [List.mem_singleton] at ha; subst ha; exact ⟨_, hz⟩⟩
    match i, e with
    | 0, e => cases e; exact ⟨z, rfl, by simp, hz⟩
    | i + 1, e => simp [ds0] at e
  refine wp_cons (deeds_spec (i := ⟨c0, c1, c2, c3, c4, c5, c6, nl, sl⟩) h₁ lf L1 hdl hdsl (drawn_len ns) (by omega) (by omega) (names_short ns) (by omega) fun rl' xs' sa' y5 y6 y7 v3 v4 v5 H2 s₂ h₂ L2 hdl2 => ?_)
  have h₂ : At fLaw C ⟨lm scr (some (.ref dl)) (some (.ref nl)) (some (.str (dsL ns).page)) (some (.ref rl')) y5 y6 y7 none none none none none none none none none, H2⟩ s₂ := h₂
  refine wp_cons (page_spec (i := ⟨c0, c1, c2, c3, c4, c5, c6, nl, sl⟩) h₂ hdl2 (by unfold dsL buildL; omega) fun H3 s₃ h₃ kp3 => ?_)
  have L3 := L2.kp kp3
  refine wp_cons (call_spec (i := ⟨c0, c1, c2, c3, c4, c5, c6, nl, sl⟩) h₃ lf L3 (kp3 _ _ hdl2) hpl (by omega) (by omega) (by omega) (by omega) P.run P.pb P.rest fun H4 s₄ bk rf e la bxs ba h₄ keep hbk hbks hrf hen hla t140 t147 => ?_)
  have n140 : ∀ (j : Nat) {a : Addr} {ao : AO}, j ≠ 10 → j ≠ 11 → ([(rl', AO.list ((dsL ns).rests.map AV.str)), (sl, .list xs'), (nl, .list ((namesL ns).map AV.str)), (c0, .cell (some (.int (roomI ns)))), (c1, .cell (some (.str (dsL ns).whole))), (c2, .cell (some (.ref sl))), (c3, .cell v3), (c4, .cell v4), (c5, .cell v5), (c6, .cell none), (140, .raw (tabObj #[])), (147, .raw (tabObj #[]))] : List (Addr × AO))[j]? = some (a, ao) → H4 a = some ao := fun j {a ao} h1 h2 e =>
    keep a ao (L3.G.get j e) (L3.G.ne j 10 e rfl h1) (L3.G.ne j 11 e rfl h2)
  have sak : ∀ a ∈ sa', ∀ ao, H3 a = some ao → H4 a = some ao := fun a ha ao e => by
    obtain ⟨x, e'⟩ := L3.kn a ha
    exact keep a ao e (ne_of e' (L3.G.get 10 rfl) nofun) (ne_of e' (L3.G.get 11 rfl) nofun)
  have L4 : LV ⟨⟨c0, c1, c2, c3, c4, c5, c6, nl, sl⟩, rl', bk, rf, e, la⟩ (namesL ns) (dsL ns) xs' sa' none msf (1 + ((pageL ns).count 10 : Nat)) bxs ba H4 := by
    refine ⟨n140 0 (by decide) (by decide) rfl, n140 1 (by decide) (by decide) rfl, n140 2 (by decide) (by decide) rfl, n140 4 (by decide) (by decide) rfl, n140 5 (by decide) (by decide) rfl, n140 9 (by decide) (by decide) rfl, L3.S.agree sak, fun a ha => let ⟨x, e'⟩ := L3.kn a ha; ⟨x, sak a ha _ e'⟩, hbk, hbks, hrf, hen, hla, L3.G.ne 4 9 rfl rfl (by decide), L3.G.ne 5 9 rfl rfl (by decide), t140, t147⟩
  rw [P.whole] at h₄
  have bl : bxs.length ≤ 1000 := by rw [hbks.1]; exact P.bkl
  refine wp_cons (check_spec (V := ⟨⟨c0, c1, c2, c3, c4, c5, c6, nl, sl⟩, rl', bk, rf, e, la⟩) h₄ lf L4 (by unfold dsL buildL; omega) P.rests P.rok P.last bl fun H5 s₅ h₅ kp5 => ?_)
  have L5 := L4.kp kp5
  refine wp_cons (paths_spec (V := ⟨⟨c0, c1, c2, c3, c4, c5, c6, nl, sl⟩, rl', bk, rf, e, la⟩) h₅ lf L5.nl (by omega) fun pl H6 s₆ pxs psa h₆ kp6 hpl6 P6 pkn => ?_)
  have L6 := L5.kp kp6
  refine wp_cons (books_spec h₆ lf L6 hpl6 P6 pkn (by omega) (by unfold dsL buildL; omega) P.all fun H7 s₇ y14 w h₇ L7 => ?_)
  refine wp_cons (lines_spec h₇ lf P.p128 (Nat.le_trans hpl (by decide)) fun H8 s₈ h₈ kp8 => ?_)
  have L8 := L7.kp kp8
  refine wp_cons (odd_spec h₈ lf L8 (by omega) fun H9 s₉ ol h₉ kp9 hol => ?_)
  exact wp_cons (last_spec h₉ lf (L8.kp kp9) hol k)
end
end Mine

end
section
open PySem PySem.W PyProof.Rows PySem.Calls PyProof.Rows.LCg
set_option linter.unusedVariables false
namespace Mine
/-- the end of a page: its last sign struck, or a lone backslash in its place -/
noncomputable def TailOk (e : List Nat) : Prop := e = [] ∨ e = [92]
theorem quoted_signs (odd : Bool) (rest : List Nat) : ∀ (word : List Nat) (k : Nat), quoted (signs false odd k word ++ 34 :: rest) = (word, rest)
  | [], k => by rw [signs, List.nil_append, quoted_end]
  | c :: r, k => by
    have ih := quoted_signs odd rest r (k + 1)
    rw [signs, sign1]
    by_cases hn : (needsQ false k c || odd) = true
    · rw [if_pos hn]
      simp only [List.cons_append, List.nil_append, List.append_assoc]
      rw [quoted_esc]
      simp [ih]
    · rw [if_neg hn]
      simp only [List.cons_append, List.nil_append, List.append_assoc]
      have hq : needsQ false k c = false := by
        simp only [Bool.or_eq_true, not_or, Bool.not_eq_true] at hn; exact hn.1
      have hq : c ∉ [34, 92] := by simpa [needsQ] using hq
      rw [quoted_else c _ (fun z => hq (by rw [z]; simp)) (fun z => hq (by rw [z]; simp)), ih]
theorem quoted_cut (odd : Bool) {e : List Nat} (he : TailOk e) : ∀ (word : List Nat) (k : Nat), quoted (signs false odd k word ++ e) = (word, [])
  | [], k => by
    rcases he with rfl | rfl
    · rfl
    · rfl
  | c :: r, k => by
    have ih := quoted_cut odd he r (k + 1)
    rw [signs, sign1]
    by_cases hn : (needsQ false k c || odd) = true
    · rw [if_pos hn]
      simp only [List.cons_append, List.nil_append, List.append_assoc]
      rw [quoted_esc]
      simp [ih]
    · rw [if_neg hn]
      simp only [List.cons_append, List.nil_append, List.append_assoc]
      have hq : needsQ false k c = false := by
        simp only [Bool.or_eq_true, not_or, Bool.not_eq_true] at hn; exact hn.1
      have hq : c ∉ [34, 92] := by simpa [needsQ] using hq
      rw [quoted_else c _ (fun z => hq (by rw [z]; simp)) (fun z => hq (by rw [z]; simp)), ih]
theorem needs_true {k c : Nat} (h : needsQ true k c = false) : isWh c = false ∧ c ≠ 92 ∧ (k = 0 → c ≠ 34) := by
  unfold needsQ at h
  rw [if_pos rfl, Bool.or_eq_false_iff] at h
  obtain ⟨h1, h2⟩ := h
  have h1 : c ∉ [32, 9, 13, 10, 92] := by simpa using h1
  refine ⟨?_, fun z => h1 (by rw [z]; simp), fun hk z => ?_⟩
  · unfold isWh whites
    refine decide_eq_false fun z => h1 ?_
    simp only [List.mem_cons, List.not_mem_nil, or_false] at z
    rcases z with rfl | rfl | rfl | rfl <;> decide
  · subst hk z; simp at h2
theorem bare_signs (odd : Bool) {w : Nat} (hw : isWh w = true) (rest : List Nat) : ∀ (word : List Nat) (k : Nat), bareT (signs true odd k word ++ w :: rest) = (word, rest)
  | [], k => by rw [signs, List.nil_append, bare_end w rest hw]
  | c :: r, k => by
    have ih := bare_signs odd hw rest r (k + 1)
    rw [signs, sign1]
    by_cases hn : (needsQ true k c || odd) = true
    · rw [if_pos hn]
      simp only [List.cons_append, List.nil_append, List.append_assoc]
      rw [bare_esc]
      simp [ih]
    · rw [if_neg hn]
      simp only [List.cons_append, List.nil_append, List.append_assoc]
      have hq : needsQ true k c = false := by
        simp only [Bool.or_eq_true, not_or, Bool.not_eq_true] at hn; exact hn.1
      obtain ⟨q1, q2, _⟩ := needs_true hq
      rw [bare_else c _ q1 q2, ih]
theorem bare_cut (odd : Bool) {e : List Nat} (he : TailOk e) : ∀ (word : List Nat) (k : Nat), bareT (signs true odd k word ++ e) = (word, [])
  | [], k => by
    rcases he with rfl | rfl
    · rfl
    · rfl
  | c :: r, k => by
    have ih := bare_cut odd he r (k + 1)
    rw [signs, sign1]
    by_cases hn : (needsQ true k c || odd) = true
    · rw [if_pos hn]
      simp only [List.cons_append, List.nil_append, List.append_assoc]
      rw [bare_esc]
      simp [ih]
    · rw [if_neg hn]
      simp only [List.cons_append, List.nil_append, List.append_assoc]
      have hq : needsQ true k c = false := by
        simp only [Bool.or_eq_true, not_or, Bool.not_eq_true] at hn; exact hn.1
      obtain ⟨q1, q2, _⟩ := needs_true hq
      rw [bare_else c _ q1 q2, ih]
theorem token_bare (odd : Bool) {c : Nat} {r X W : List Nat} {R : List Nat} (h : bareT X = (W, R)) (hX : ∀ Y, Y = signs true odd 1 r → True) : token (sign1 true odd 0 c ++ X) = (c :: W, R) := by
  rw [sign1]
  by_cases hn : (needsQ true 0 c || odd) = true
  · rw [if_pos hn]
    simp only [List.cons_append, List.nil_append]
    rw [token_esc]
    simp [h]
  · rw [if_neg hn]
    simp only [List.cons_append, List.nil_append]
    have hq : needsQ true 0 c = false := by
      simp only [Bool.or_eq_true, not_or, Bool.not_eq_true] at hn; exact hn.1
    obtain ⟨q1, q2, q3⟩ := needs_true hq
    rw [token_else c _ q1 (q3 rfl) q2, h]
theorem token_ahead {ahead : List Nat} (h : ∀ c ∈ ahead, isWh c = true) (X : List Nat) : token (ahead ++ X) = token X := by
  induction ahead with
  | nil => rfl
  | cons c r ih =>
    rw [List.cons_append, token_white c _ (h c (.head _))]
    exact ih fun d hd => h d (.tail _ hd)
/-- a word as it is written is read again -/
theorem token_written {ahead word : List Nat} {manner : Int} {w : Nat} (ha : ∀ c ∈ ahead, isWh c = true) (hw : isWh w = true) (rest : List Nat) : token ((ahead ++ written word manner [w]) ++ rest) = (word, rest) := by
  rw [List.append_assoc, token_ahead ha]
  unfold written
  by_cases hb : isBare word manner = true
  · rw [if_pos hb]
    cases word with
    | nil => unfold isBare at hb; simp at hb
    | cons c r =>
      rw [signs, List.append_assoc, List.append_assoc]
      exact token_bare (manner % 2 == 1) (r := r) (bare_signs _ hw rest r (0 + 1)) fun _ _ => trivial
  · rw [if_neg hb, List.cons_append, List.cons_append, token_quote, List.append_assoc]
    exact quoted_signs _ rest word 0
theorem token_cut {ahead word : List Nat} {manner : Int} {w : Nat} {e : List Nat} (ha : ∀ c ∈ ahead, isWh c = true) (he : TailOk e) : token ((ahead ++ written word manner [w]).dropLast ++ e) = (word, []) := by
  unfold written
  by_cases hb : isBare word manner = true
  · rw [if_pos hb, ← List.append_assoc, List.dropLast_concat, List.append_assoc, token_ahead ha]
    cases word with
    | nil => unfold isBare at hb; simp at hb
    | cons c r =>
      rw [signs, List.append_assoc]
      exact token_bare (manner % 2 == 1) (r := r) (bare_cut _ he r (0 + 1)) fun _ _ => trivial
  · rw [if_neg hb, ← List.append_assoc, List.dropLast_concat, List.append_assoc, token_ahead ha, List.cons_append, token_quote]
    exact quoted_cut _ he word 0
theorem written_ne (word : List Nat) (manner : Int) (w : Nat) : written word manner [w] ≠ [] := by
  unfold written
  split <;> simp
end Mine

end
section
open PySem PySem.W PyProof.Rows PySem.Calls PyProof.Rows.LCg
set_option linter.unusedVariables false
namespace Mine
noncomputable def cntP (l : List Nat) (q : Nat) : Nat := l.countP fun x => decide (x ≤ q)
/-- Fenwick: the way down from i and the way up from a meet once, if at all -/
theorem fen : ∀ (n a q : Fin 8), 4 ≤ n.val → a.val < n.val + 1 → q.val < n.val + 1 → (pathI (q.val + 1)).countP (fun i => decide (i.toNat ∈ chain (n.val + 1) (n.val + 1) (a.val + 1))) = if a.val ≤ q.val then 1 else 0 := by decide +kernel
theorem fenwick {N a q : Nat} (h5 : 5 ≤ N) (h8 : N ≤ 8) (ha : a < N) (hq : q < N) : (pathI (q + 1)).countP (fun i => decide (i.toNat ∈ chain N N (a + 1))) = if a ≤ q then 1 else 0 := by
  obtain ⟨n, rfl⟩ : ∃ n, N = n + 1 := ⟨N - 1, by omega⟩
  exact fen ⟨n, by omega⟩ ⟨a, by omega⟩ ⟨q, by omega⟩ (by show 4 ≤ n; omega) ha hq
theorem sum_bump (p : Int → Bool) (f : Int → Int) (m : Int) : ∀ l : List Int, (l.map fun i => if p i = true then f i + m else f i).sum = (l.map f).sum + m * (l.countP p : Nat)
  | [] => by simp
  | i :: r => by
    have ih := sum_bump p f m r
    simp only [List.map_cons, List.sum_cons, ih, List.countP_cons]
    cases p i
    · simp; omega
    · simp [Int.mul_add]; omega
theorem told_get {offs : Nat → Int} {N : Nat} {i : Int} (h1 : 1 ≤ i) (h2 : i ≤ N) : (told offs N).getD (i - 1).toNat 0 = offs i.toNat := by
  unfold told
  have : (i - 1).toNat < N := by omega
  rw [List.getD_eq_getElem?_getD, List.getElem?_map, List.getElem?_range this]
  show offs ((i - 1).toNat + 1) = _
  congr 1; omega
theorem pathSum_told {offs : Nat → Int} {N q : Nat} (h8 : N ≤ 8) (hq : q < N) : pathSum (told offs N) q = ((pathI (q + 1)).map fun i => offs i.toNat).sum := by
  unfold pathSum
  congr 1
  refine List.map_congr_left fun i hi => ?_
  obtain ⟨i1, i2⟩ := path_in q (by omega) i hi
  exact told_get i1 (by omega)
/-- what holds of the machine, acc the accounts of the signs on the tape -/
structure Inv (N : Nat) (acc : List Nat) (ms : MS) : Prop where
  fl : ms.signs.flatten.length = acc.length
  of : ∀ q, q < N → pathSum (told ms.offs N) q = (cntP acc q : Nat)
  bk : ∀ nn td, (nn, td) ∈ ms.books → td.length = N ∧ nn ≤ acc.length ∧ ∀ q, q < N → pathSum td q = (cntP (acc.take nn) q : Nat)
theorem cntP_app (acc : List Nat) (m a q : Nat) : cntP (acc ++ List.replicate m a) q = cntP acc q + m * (if a ≤ q then 1 else 0) := by
  unfold cntP
  rw [List.countP_append, List.countP_replicate]
  by_cases h : a ≤ q <;> simp [h]
/-- a turn, from what the two tokens are -/
structure Two (ms : MS) (name u R2 : List Nat) : Prop where
  ex : ∃ pb1 r1, getTok ms.pb ms.rest = (name, pb1, r1) ∧ getTok pb1 r1 = (u, [], R2)
theorem turn_two {names : List (List Nat)} {most room : Int} {ms : MS} {name u R2 : List Nat} {a : Nat} (h : Two ms name u R2) (hk : known names name = [a]) :
    turnM names most room ms = .inl (bookM names.length (pushM name u (writeM names.length most room (a + 1) u { ms with pb := [], rest := R2 }))) := by
  obtain ⟨pb1, r1, h1, h2⟩ := h.ex
  unfold turnM
  dsimp only
  rw [h1]
  dsimp only
  rw [hk]
  dsimp only
  rw [h2]
noncomputable def stepsM (names : List (List Nat)) (most room : Int) : Nat → MS → Option MS
  | 0, ms => some ms
  | t + 1, ms => match turnM names most room ms with
    | .inr _ => none
    | .inl ms' => stepsM names most room t ms'
theorem steps_run {names : List (List Nat)} {most room : Int} : ∀ {t f : Nat} {ms ms' : MS}, stepsM names most room t ms = some ms' → runM names most room (t + f) ms = runM names most room f ms'
  | 0, f, ms, ms', h => by cases h; rw [Nat.zero_add]
  | t + 1, f, ms, ms', h => by
    rw [show t + 1 + f = (t + f) + 1 by omega]
    unfold stepsM at h
    show (match turnM names most room ms with | .inr r => some r | .inl ms' => runM names most room (t + f) ms') = _
    cases e : turnM names most room ms with
    | inr r => rw [e] at h; cases h
    | inl ms1 => rw [e] at h; exact steps_run h
theorem steps_one {names : List (List Nat)} {most room : Int} {t : Nat} {ms ms1 ms' : MS} (h1 : turnM names most room ms = .inl ms1) (h2 : stepsM names most room t ms1 = some ms') : stepsM names most room (t + 1) ms = some ms' := by
  unfold stepsM; rw [h1]; exact h2
theorem steps_add {names : List (List Nat)} {most room : Int} : ∀ {t t' : Nat} {ms ms1 ms' : MS}, stepsM names most room t ms = some ms1 → stepsM names most room t' ms1 = some ms' → stepsM names most room (t + t') ms = some ms'
  | 0, t', ms, ms1, ms', h1, h2 => by cases h1; rw [Nat.zero_add]; exact h2
  | t + 1, t', ms, ms1, ms', h1, h2 => by
    rw [show t + 1 + t' = (t + t') + 1 by omega]
    unfold stepsM at h1 ⊢
    cases e : turnM names most room ms with
    | inr r => rw [e] at h1; cases h1
    | inl ms2 => rw [e] at h1; exact steps_add h1 h2
/-- the room left, behind L signs, no refusal pending -/
noncomputable def canonL (room : Int) (L : Nat) : Int := if 0 < L ∧ (L : Int) % room = 0 then 0 else room - (L : Int) % room
/-- the end of a deed's part u -/
structure Fin' (N a : Nat) (room : Int) (acc : List Nat) (rf : List (List Nat)) (fl : List Nat) (u R2 : List Nat) (ms' : MS) : Prop where
  pb : ms'.pb = []
  rest : ms'.rest = R2
  left : ms'.left = canonL room (acc.length + u.length)
  fl : ms'.signs.flatten = fl ++ u
  rf : ms'.refused = rf ++ restsOf acc.length u room
  inv : Inv N (acc ++ List.replicate u.length a) ms'
  last : ∃ pre, ms'.books = pre ++ [(acc.length + u.length, told ms'.offs N)]
theorem told_len (offs : Nat → Int) (N : Nat) : (told offs N).length = N := by unfold told; simp
/-- what a turn's write keeps -/
theorem inv_write {N a : Nat} {acc : List Nat} {ms ms2 : MS} {part : List Nat} (I : Inv N acc ms) (h5 : 5 ≤ N) (h8 : N ≤ 8) (ha : a < N) (e1 : ms2.signs.flatten = ms.signs.flatten ++ part) (e2 : ms2.offs = fun j => if j ∈ chain N N (a + 1) then ms.offs j + (part.length : Nat) else ms.offs j) (e3 : ms2.books = ms.books ++ [(ms2.signs.flatten.length, told ms2.offs N)]) :
    Inv N (acc ++ List.replicate part.length a) ms2 := by
  have f1 : ms2.signs.flatten.length = (acc ++ List.replicate part.length a).length := by
    rw [e1, List.length_append, List.length_append, I.fl, List.length_replicate]
  have o1 : ∀ q, q < N → pathSum (told ms2.offs N) q = (cntP (acc ++ List.replicate part.length a) q : Nat) := fun q hq => by
    rw [pathSum_told h8 hq, e2]
    have : (pathI (q + 1)).map (fun i : Int => (fun j => if j ∈ chain N N (a + 1) then ms.offs j + (part.length : Nat) else ms.offs j) i.toNat) = (pathI (q + 1)).map fun i => if decide (i.toNat ∈ chain N N (a + 1)) = true then (fun i : Int => ms.offs i.toNat) i + (part.length : Nat) else (fun i : Int => ms.offs i.toNat) i := by
      refine List.map_congr_left fun i _ => ?_
      dsimp only
      by_cases h : i.toNat ∈ chain N N (a + 1) <;> simp [h]
    rw [this, sum_bump (fun i => decide (i.toNat ∈ chain N N (a + 1))) (fun i : Int => ms.offs i.toNat) (part.length : Nat), fenwick h5 h8 ha hq, ← pathSum_told h8 hq, I.of q hq, cntP_app]
    rw [Int.natCast_add, Int.natCast_mul]
  refine ⟨f1, o1, fun nn td hb => ?_⟩
  rw [e3] at hb
  rcases List.mem_append.mp hb with hb | hb
  · obtain ⟨b1, b2, b3⟩ := I.bk nn td hb
    refine ⟨b1, by rw [List.length_append]; omega, fun q hq => ?_⟩
    rw [List.take_append_of_le_length b2]
    exact b3 q hq
  · rw [List.mem_singleton] at hb
    obtain ⟨rfl, rfl⟩ := Prod.mk.inj hb
    refine ⟨told_len _ _, by rw [f1]; omega, fun q hq => ?_⟩
    rw [f1, List.take_length]
    exact o1 q hq
end Mine

end
section
open PySem PySem.W PyProof.Rows PySem.Calls PyProof.Rows.LCg
set_option linter.unusedVariables false
namespace Mine
theorem restsOf_nil (w : Nat) (room : Int) : restsOf w [] room = [] := rfl
theorem restsOf_split {w m : Nat} {u : List Nat} {room : Int} (hu : u ≠ []) (hm : 1 ≤ m) (hno : ∀ k : Nat, 0 < k → k < m → ((w : Int) + (k : Int)) % room ≠ 0) :
    restsOf w u room = (if 0 < w ∧ (w : Int) % room = 0 then [u] else []) ++ restsOf (w + (u.take m).length) (u.drop m) room := by
  have hl : 1 ≤ u.length := by cases u with | nil => exact absurd rfl hu | cons _ _ => simp
  have hp : (u.take m).length = min m u.length := List.length_take
  rw [hp]
  obtain ⟨p', hp'⟩ : ∃ p', min m u.length = p' + 1 := ⟨min m u.length - 1, by omega⟩
  have hpm : p' + 1 ≤ m := by omega
  have hpu : p' + 1 ≤ u.length := by omega
  have hd : u.drop m = u.drop (p' + 1) := by
    by_cases h : m ≤ u.length
    · congr 1; omega
    · rw [List.drop_of_length_le (by omega), List.drop_of_length_le (by omega)]
  rw [hp', hd]
  unfold restsOf
  have hr : List.range u.length = List.range (p' + 1) ++ (List.range (u.length - (p' + 1))).map (p' + 1 + ·) := by
    rw [← List.range_add]; congr 1; omega
  rw [hr, List.filter_append, List.map_append]
  congr 1
  · rw [List.range_succ_eq_map, List.filter_cons]
    have ht : (List.filter (fun (k : Nat) => decide ((w : Int) + (k : Int) > 0) && (((w : Int) + (k : Int)) % room == 0)) (List.map Nat.succ (List.range p'))) = [] := by
      rw [List.filter_eq_nil_iff]
      intro k hk
      obtain ⟨j, hj, rfl⟩ := List.mem_map.mp hk
      rw [List.mem_range] at hj
      have hb : (((w : Int) + ((j + 1 : Nat) : Int)) % room == 0) = false := beq_eq_false_iff_ne.mpr (hno (j + 1) (by omega) (by omega))
      show ¬ (_ && (((w : Int) + ((j + 1 : Nat) : Int)) % room == 0)) = true
      rw [hb, Bool.and_false]; decide
    rw [ht]
    by_cases h : 0 < w ∧ (w : Int) % room = 0
    · rw [if_pos h, if_pos (by obtain ⟨h1, h2⟩ := h; simp [h2]; omega)]
      simp
    · rw [if_neg h, if_neg (by
        intro z
        simp only [Int.natCast_zero, Int.add_zero, gt_iff_lt, Bool.and_eq_true, decide_eq_true_eq, beq_iff_eq] at z
        exact h ⟨by omega, z.2⟩)]
      rfl
  · rw [List.filter_map, List.map_map, List.length_drop]
    have e1 : ((fun (k : Nat) => decide ((w : Int) + (k : Int) > 0) && (((w : Int) + (k : Int)) % room == 0)) ∘ fun x => p' + 1 + x) = fun (k : Nat) => decide (((w + (p' + 1) : Nat) : Int) + (k : Int) > 0) && ((((w + (p' + 1) : Nat) : Int) + (k : Int)) % room == 0) := by
      funext k
      dsimp only [Function.comp]
      have : (w : Int) + ((p' + 1 + k : Nat) : Int) = ((w + (p' + 1) : Nat) : Int) + (k : Int) := by omega
      rw [this]
    rw [e1]
    refine List.map_congr_left fun k _ => ?_
    simp only [Function.comp, List.drop_drop]
theorem emod_step {L p : Nat} {room : Int} (hr : 0 < room) (hp : (p : Int) ≤ room - (L : Int) % room) : ((L + p : Nat) : Int) % room = if (p : Int) = room - (L : Int) % room then 0 else (L : Int) % room + p := by
  have h0 := Int.emod_nonneg (L : Int) (show room ≠ 0 by omega)
  have h1 := Int.emod_lt_of_pos (L : Int) hr
  have e : ((L + p : Nat) : Int) = ((L : Int) % room + p) + room * ((L : Int) / room) := by
    have := Int.emod_add_mul_ediv (L : Int) room
    rw [Int.natCast_add]; omega
  rw [e, Int.add_mul_emod_self_left]
  split
  · rename_i h
    rw [h, show (L : Int) % room + (room - (L : Int) % room) = room by omega, Int.emod_self]
  · exact Int.emod_eq_of_lt (by omega) (by omega)
theorem canon_step {L p : Nat} {room : Int} (hr : 0 < room) (hp1 : 1 ≤ p) (hp : (p : Int) ≤ room - (L : Int) % room) : canonL room (L + p) = (room - (L : Int) % room) - p := by
  have h0 := Int.emod_nonneg (L : Int) (show room ≠ 0 by omega)
  have h := emod_step hr hp
  unfold canonL
  rw [h]
  by_cases e : (p : Int) = room - (L : Int) % room
  · rw [if_pos e, if_pos ⟨by omega, rfl⟩]; omega
  · rw [if_neg e, if_neg (by intro z; omega)]; omega
section
variable {names : List (List Nat)} {most room : Int} {name R2 : List Nat} {a : Nat}
theorem run_part (h5 : 5 ≤ names.length) (h8 : names.length ≤ 8) (ha : a < names.length) (hk : known names name = [a]) (hm : 1 ≤ most) (hr : 1 ≤ room) : ∀ (n : Nat) (u : List Nat) (acc : List Nat) (ms : MS) (rf : List (List Nat)), Two ms name u R2 → Inv names.length acc ms →
    ((ms.left = canonL room acc.length ∧ ms.refused = rf ∧ 2 * u.length + 1 ≤ n) ∨ (u ≠ [] ∧ 0 < acc.length ∧ (acc.length : Int) % room = 0 ∧ ms.left = room ∧ ms.refused = rf ++ [u] ∧ 2 * u.length ≤ n)) →
    ∃ t ms', t ≤ n ∧ stepsM names most room t ms = some ms' ∧ Fin' names.length a room acc rf ms.signs.flatten u R2 ms' := by
  intro n
  induction n with
  | zero =>
    intro u acc ms rf T I h
    rcases h with ⟨_, _, h⟩ | ⟨hu, _, _, _, _, h⟩
    · omega
    · cases u with
      | nil => exact absurd rfl hu
      | cons _ _ => simp at h
  | succ n ih =>
    intro u acc ms rf T I h
    have ht := turn_two (most := most) (room := room) T hk
    -- a write that takes
    have take : ∀ (rf₀ : List (List Nat)), u ≠ [] → ms.left = room - (acc.length : Int) % room → ms.refused = rf ++ (if 0 < acc.length ∧ (acc.length : Int) % room = 0 then [u] else []) → 2 * u.length ≤ n + 1 → ∃ t ms', t ≤ n + 1 ∧ stepsM names most room t ms = some ms' ∧ Fin' names.length a room acc rf ms.signs.flatten u R2 ms' := fun _ hu hleft hrf hn => by
      have h0 := Int.emod_nonneg (acc.length : Int) (show room ≠ 0 by omega)
      have h1 := Int.emod_lt_of_pos (acc.length : Int) (show 0 < room by omega)
      have hlp : 0 < ms.left := by omega
      have ew : writeM names.length most room (a + 1) u { ms with pb := [], rest := R2 } = ({ rest := R2, pb := [], left := ms.left - (u.take (min most ms.left).toNat).length, signs := ms.signs ++ [u.take (min most ms.left).toNat], offs := fun j => if j ∈ chain names.length names.length (a + 1) then ms.offs j + (u.take (min most ms.left).toNat).length else ms.offs j, books := ms.books, refused := ms.refused }, (u.take (min most ms.left).toNat).length) := by
        unfold writeM; rw [if_neg (by dsimp only; omega)]
      rw [ew] at ht
      have hm1 : 1 ≤ (min most ms.left).toNat := by omega
      have hml : ((min most ms.left).toNat : Int) ≤ room - (acc.length : Int) % room := by omega
      generalize (min most ms.left).toNat = m at ht hm1 hml ew
      have hul : 1 ≤ u.length := by cases u with | nil => exact absurd rfl hu | cons _ _ => simp
      have hpl : (u.take m).length = min m u.length := List.length_take
      have hno : ∀ k : Nat, 0 < k → k < m → ((acc.length : Int) + (k : Int)) % room ≠ 0 := fun k hk0 hkm => by
        have := emod_step (L := acc.length) (p := k) (room := room) (by omega) (by omega)
        rw [Int.natCast_add] at this
        rw [this, if_neg (by omega)]; omega
      have hrs := restsOf_split (w := acc.length) hu hm1 hno
      have hcan : canonL room (acc.length + (u.take m).length) = ms.left - (u.take m).length := by
        rw [canon_step (by omega) (by omega) (by omega), hleft]
      have hIw : ∀ pb, Inv names.length (acc ++ List.replicate (u.take m).length a) (bookM names.length { rest := R2, pb := pb, left := ms.left - (u.take m).length, signs := ms.signs ++ [u.take m], offs := fun j => if j ∈ chain names.length names.length (a + 1) then ms.offs j + (u.take m).length else ms.offs j, books := ms.books, refused := ms.refused }) := fun pb =>
        inv_write I h5 h8 ha (by simp [bookM]) rfl rfl
      by_cases hd : u.drop m = []
      · -- all is taken
        have hmu : u.length ≤ m := by
          have := congrArg List.length hd
          rw [List.length_drop] at this; simp at this; omega
        have eu : u.take m = u := List.take_of_length_le hmu
        rw [eu] at ht hIw hcan
        have ep : pushM name u ({ rest := R2, pb := [], left := ms.left - u.length, signs := ms.signs ++ [u], offs := fun j => if j ∈ chain names.length names.length (a + 1) then ms.offs j + u.length else ms.offs j, books := ms.books, refused := ms.refused }, u.length) = { rest := R2, pb := [], left := ms.left - u.length, signs := ms.signs ++ [u], offs := fun j => if j ∈ chain names.length names.length (a + 1) then ms.offs j + u.length else ms.offs j, books := ms.books, refused := ms.refused } := by
          unfold pushM; rw [if_neg (by dsimp only; omega)]
        rw [ep] at ht
        refine ⟨1, _, by omega, steps_one ht rfl, ⟨rfl, rfl, hcan.symm, by simp [bookM], ?_, hIw [], ?_⟩⟩
        · rw [hrs, hd, restsOf_nil, List.append_nil]; exact hrf
        · refine ⟨ms.books, ?_⟩
          show ms.books ++ [((ms.signs ++ [u]).flatten.length, _)] = _
          rw [List.flatten_append, List.length_append, I.fl]
          simp only [List.flatten_cons, List.flatten_nil, List.append_nil]
          rfl
      · -- some is left
        have hmu : m < u.length := by
          rcases Nat.lt_or_ge m u.length with h | h
          · exact h
          · exact absurd (List.drop_of_length_le h) hd
        have elen : (u.take m).length = m := by omega
        have ep : pushM name u ({ rest := R2, pb := [], left := ms.left - (u.take m).length, signs := ms.signs ++ [u.take m], offs := fun j => if j ∈ chain names.length names.length (a + 1) then ms.offs j + (u.take m).length else ms.offs j, books := ms.books, refused := ms.refused }, (u.take m).length) = { rest := R2, pb := [name, u.drop m], left := ms.left - (u.take m).length, signs := ms.signs ++ [u.take m], offs := fun j => if j ∈ chain names.length names.length (a + 1) then ms.offs j + (u.take m).length else ms.offs j, books := ms.books, refused := ms.refused } := by
          unfold pushM; rw [if_pos (by dsimp only; omega)]
          simp only [elen]; rfl
        rw [ep] at ht
        have hI2 := hIw [name, u.drop m]
        obtain ⟨t, ms', t1, t2, F⟩ := ih (u.drop m) (acc ++ List.replicate (u.take m).length a) _ ms.refused ⟨_, _, rfl, rfl⟩ hI2 (.inl ⟨by
          show ms.left - (u.take m).length = _
          rw [List.length_append, List.length_replicate, hcan], rfl, by rw [List.length_drop]; omega⟩)
        have el : (acc ++ List.replicate (u.take m).length a).length = acc.length + (u.take m).length := by rw [List.length_append, List.length_replicate]
        have eul : (u.take m).length + (u.drop m).length = u.length := by rw [List.length_drop]; omega
        refine ⟨t + 1, ms', by omega, steps_one ht t2, ⟨F.pb, F.rest, ?_, ?_, ?_, ?_, ?_⟩⟩
        · rw [F.left, el]; congr 1; omega
        · rw [F.fl]
          show (ms.signs ++ [u.take m]).flatten ++ u.drop m = _
          rw [List.flatten_append]
          simp only [List.flatten_cons, List.flatten_nil, List.append_nil]
          rw [List.append_assoc, List.take_append_drop]
        · rw [F.rf, hrf, el, List.append_assoc, ← hrs]
        · have := F.inv
          rw [List.append_assoc, List.replicate_append_replicate, eul] at this
          exact this
        · obtain ⟨pre, hpre⟩ := F.last
          refine ⟨pre, ?_⟩
          rw [hpre, el, Nat.add_assoc, eul]
    rcases h with ⟨hleft, hrf, hn⟩ | ⟨hu, hl0, hlm, hleft, hrf, hn⟩
    · by_cases hu : u = []
      · subst hu
        have ew : writeM names.length most room (a + 1) [] { ms with pb := [], rest := R2 } = ({ rest := R2, pb := [], left := ms.left - ((0 : Nat) : Int), signs := ms.signs ++ [[]], offs := fun j => if j ∈ chain names.length names.length (a + 1) then ms.offs j + ((0 : Nat) : Int) else ms.offs j, books := ms.books, refused := ms.refused }, 0) := by
          unfold writeM; rw [if_neg (by simp)]; simp
        rw [ew] at ht
        have ep : ∀ x : MS, pushM name [] (x, 0) = x := fun x => by unfold pushM; rw [if_neg (by simp)]
        rw [ep] at ht
        have hI := inv_write (part := []) (ms2 := bookM names.length { rest := R2, pb := [], left := ms.left - ((0 : Nat) : Int), signs := ms.signs ++ [[]], offs := fun j => if j ∈ chain names.length names.length (a + 1) then ms.offs j + ((0 : Nat) : Int) else ms.offs j, books := ms.books, refused := ms.refused }) I h5 h8 ha (by simp [bookM]) rfl rfl
        refine ⟨1, _, by omega, steps_one ht rfl, ⟨rfl, rfl, ?_, by simp [bookM], ?_, hI, ⟨ms.books, ?_⟩⟩⟩
        · show ms.left - 0 = _
          rw [Int.sub_zero, hleft]; rfl
        · rw [restsOf_nil, List.append_nil]; exact hrf
        · show ms.books ++ [((ms.signs ++ [[]]).flatten.length, _)] = _
          rw [List.flatten_append, List.length_append, I.fl]; rfl
      · by_cases hc : 0 < acc.length ∧ (acc.length : Int) % room = 0
        · -- refused
          have hl0 : ms.left = 0 := by rw [hleft]; unfold canonL; rw [if_pos hc]
          have ew : writeM names.length most room (a + 1) u { ms with pb := [], rest := R2 } = ({ rest := R2, pb := [], left := room, signs := ms.signs, offs := ms.offs, books := ms.books, refused := ms.refused ++ [u] }, 0) := by
            unfold writeM; rw [if_pos ⟨hu, hl0⟩]
          rw [ew] at ht
          have hul : 0 < u.length := by cases u with | nil => exact absurd rfl hu | cons _ _ => simp
          have ep : pushM name u ({ rest := R2, pb := [], left := room, signs := ms.signs, offs := ms.offs, books := ms.books, refused := ms.refused ++ [u] }, 0) = { rest := R2, pb := [name, u], left := room, signs := ms.signs, offs := ms.offs, books := ms.books, refused := ms.refused ++ [u] } := by
            unfold pushM; rw [if_pos hul]; rfl
          rw [ep] at ht
          have hI0 := inv_write (part := []) (ms2 := bookM names.length { rest := R2, pb := [name, u], left := room, signs := ms.signs, offs := ms.offs, books := ms.books, refused := ms.refused ++ [u] }) I h5 h8 ha (by simp [bookM]) (by
            funext j
            show ms.offs j = _
            split <;> simp) rfl
          have hI : Inv names.length acc (bookM names.length { rest := R2, pb := [name, u], left := room, signs := ms.signs, offs := ms.offs, books := ms.books, refused := ms.refused ++ [u] }) := by simpa using hI0
          obtain ⟨t, ms', t1, t2, F⟩ := ih u acc _ rf ⟨_, _, rfl, rfl⟩ hI (.inr ⟨hu, hc.1, hc.2, rfl, by rw [← hrf]; rfl, by omega⟩)
          exact ⟨t + 1, ms', by omega, steps_one ht t2, F⟩
        · refine take rf hu ?_ ?_ (by omega)
          · rw [hleft]; unfold canonL; rw [if_neg hc]
          · rw [if_neg hc, List.append_nil]; exact hrf
    · refine take rf hu ?_ ?_ (by omega)
      · rw [hleft, hlm]; omega
      · rw [if_pos ⟨hl0, hlm⟩]; exact hrf
end
end Mine

end
section
open PySem PySem.W PyProof.Rows PySem.Calls PyProof.Rows.LCg
set_option linter.unusedVariables false
namespace Mine
noncomputable def rowAll (N : Nat) (acc : List Nat) : List Int := (List.range N).map fun j => ((cntP acc j : Nat) : Int)
noncomputable def rowsOf (N : Nat) (acc : List Nat) : List (List Int) := (List.range (acc.length + 1)).map fun L => rowAll N (acc.take L)
theorem rowAll_get {N j : Nat} {acc : List Nat} (h : j < N) : (rowAll N acc).getD j 0 = (cntP acc j : Nat) := by
  unfold rowAll
  rw [List.getD_eq_getElem?_getD, List.getElem?_map, List.getElem?_range h]; rfl
theorem nextRow_all (N i : Nat) (acc : List Nat) : nextRow N i (rowAll N acc) = rowAll N (acc ++ [i]) := by
  unfold nextRow
  conv => rhs; unfold rowAll
  refine List.map_congr_left fun j hj => ?_
  rw [List.mem_range] at hj
  rw [rowAll_get hj]
  have := cntP_app acc 1 i j
  rw [show List.replicate 1 i = [i] from rfl] at this
  rw [this]
  by_cases h : i ≤ j
  · rw [if_pos (by omega), if_pos h]; omega
  · rw [if_neg (by omega), if_neg h]; omega
theorem rowsOf_last (N : Nat) (acc : List Nat) : (rowsOf N acc).getLast?.getD [] = rowAll N acc := by
  unfold rowsOf
  rw [List.range_succ, List.map_append, List.map_singleton, List.getLast?_concat, List.take_length]; rfl
theorem rowsOf_snoc (N i : Nat) (acc : List Nat) : rowsOf N (acc ++ [i]) = rowsOf N acc ++ [rowAll N (acc ++ [i])] := by
  unfold rowsOf
  rw [show (acc ++ [i]).length + 1 = (acc.length + 1) + 1 by simp, List.range_succ, List.map_append, List.map_singleton]
  congr 1
  · refine List.map_congr_left fun L hL => ?_
    rw [List.mem_range] at hL
    rw [List.take_append_of_le_length (by omega)]
  · rw [List.take_of_length_le (by simp)]
theorem addRows_rows (N i : Nat) : ∀ (m : Nat) (acc : List Nat), addRows N i m (rowsOf N acc) = rowsOf N (acc ++ List.replicate m i)
  | 0, acc => by simp [addRows]
  | m + 1, acc => by
    show addRows N i m (rowsOf N acc ++ [nextRow N i ((rowsOf N acc).getLast?.getD [])]) = _
    rw [rowsOf_last, nextRow_all, ← rowsOf_snoc, addRows_rows N i m, List.append_assoc, List.replicate_succ]; rfl
theorem ds0_rows (names : List (List Nat)) : (ds0 names).sums = rowsOf names.length [] := by
  show [names.map fun _ => (0 : Int)] = [rowAll names.length []]
  congr 1
  unfold rowAll
  rw [List.map_const', show (fun j => ((cntP [] j : Nat) : Int)) = fun _ => (0 : Int) from rfl, List.map_const', List.length_range]
theorem dWhite_wh (num : Int) : ∃ w, dWhite num = [w] ∧ isWh w = true ∧ w < 128 := by
  refine ⟨_, rfl, ?_⟩
  have : whsL.getD (num / 2621440 % 4).toNat 0 ∈ whsL := getD_mem (by
    have : whsL.length = 4 := rfl
    omega)
  generalize whsL.getD (num / 2621440 % 4).toNat 0 = w at this ⊢
  simp only [whsL, List.mem_cons, List.not_mem_nil, or_false] at this
  rcases this with h | h | h | h <;> rw [h] <;> decide
theorem dAhead_wh (num : Int) : ∀ c ∈ dAhead num, isWh c = true ∧ c < 128 := fun c hc => by
  unfold dAhead at hc
  obtain ⟨l, hl, hcl⟩ := List.mem_flatten.mp hc
  have := List.eq_of_mem_replicate hl
  subst this
  obtain ⟨w, e, h1, h2⟩ := dWhite_wh num
  rw [e] at hcl
  rw [List.mem_singleton.mp hcl]; exact ⟨h1, h2⟩
noncomputable def chunk1 (names : List (List Nat)) (num : Int) : List Nat := dAhead num ++ written (names.getD (dI names.length num) []) (num / 163840 % 4) (dWhite num)
noncomputable def chunk2 (num : Int) : List Nat := dAhead num ++ written (dText num) (num / 655360 % 4) (dWhite num)
theorem token_chunk1 (names : List (List Nat)) (num : Int) (X : List Nat) : token (chunk1 names num ++ X) = (names.getD (dI names.length num) [], X) := by
  obtain ⟨w, e, h1, _⟩ := dWhite_wh num
  unfold chunk1; rw [e]
  exact token_written (fun c hc => (dAhead_wh num c hc).1) h1 X
theorem token_chunk2 (num : Int) (X : List Nat) : token (chunk2 num ++ X) = (dText num, X) := by
  obtain ⟨w, e, h1, _⟩ := dWhite_wh num
  unfold chunk2; rw [e]
  exact token_written (fun c hc => (dAhead_wh num c hc).1) h1 X
theorem token_chunk2_cut (num : Int) {e : List Nat} (he : TailOk e) : token ((chunk2 num).dropLast ++ e) = (dText num, []) := by
  obtain ⟨w, ew, h1, _⟩ := dWhite_wh num
  unfold chunk2; rw [ew]
  exact token_cut (fun c hc => (dAhead_wh num c hc).1) he
theorem chunk2_ne (num : Int) : chunk2 num ≠ [] := by
  obtain ⟨w, ew, h1, _⟩ := dWhite_wh num
  unfold chunk2; rw [ew]
  intro z
  exact written_ne _ _ _ (List.append_eq_nil_iff.mp z).2
/-- the machine and what was built go together -/
structure Rel (N : Nat) (room : Int) (acc : List Nat) (ds : DS) (ms : MS) : Prop where
  pb : ms.pb = []
  left : ms.left = canonL room acc.length
  fl : ms.signs.flatten = ds.whole
  rf : ms.refused = ds.rests
  inv : Inv N acc ms
  wl : ds.whole.length = acc.length
  ss : ds.sums = rowsOf N acc
section
variable {names : List (List Nat)} {most room : Int}
theorem deed_run (h5 : 5 ≤ names.length) (h8 : names.length ≤ 8) (hk : ∀ a, a < names.length → known names (names.getD a []) = [a]) (hm : 1 ≤ most) (hr : 1 ≤ room) {acc : List Nat} {ds : DS} {ms : MS} {num : Int} {T R2 : List Nat} (R : Rel names.length room acc ds ms) (hrest : ms.rest = chunk1 names num ++ T) (hT : token T = (dText num, R2)) :
    ∃ t ms', t ≤ 9 ∧ stepsM names most room t ms = some ms' ∧ Rel names.length room (acc ++ List.replicate (dText num).length (dI names.length num)) (deedStep names room num ds) ms' ∧ ms'.rest = R2 ∧ ∃ pre, ms'.books = pre ++ [((acc ++ List.replicate (dText num).length (dI names.length num)).length, told ms'.offs names.length)] := by
  have hi := dI_lt names.length num (by omega)
  have two : Two ms (names.getD (dI names.length num) []) (dText num) R2 := by
    refine ⟨[], T, ?_, ?_⟩
    · rw [R.pb, hrest]; show ((token _).1, _, (token _).2) = _; rw [token_chunk1]
    · show ((token T).1, _, (token T).2) = _; rw [hT]
  obtain ⟨t, ms', t1, t2, F⟩ := run_part (R2 := R2) h5 h8 hi (hk _ hi) hm hr (2 * (dText num).length + 1) (dText num) acc ms ds.rests two R.inv (.inl ⟨R.left, R.rf, Nat.le_refl _⟩)
  have tl := dText_len num
  have el : (acc ++ List.replicate (dText num).length (dI names.length num)).length = acc.length + (dText num).length := by rw [List.length_append, List.length_replicate]
  refine ⟨t, ms', by omega, t2, ⟨F.pb, by rw [F.left, el], ?_, ?_, F.inv, ?_, ?_⟩, F.rest, ?_⟩
  · rw [F.fl, R.fl]; rfl
  · rw [F.rf, ← R.wl]; rfl
  · show (ds.whole ++ dText num).length = _
    rw [List.length_append, el, R.wl]
  · show addRows _ _ _ ds.sums = _
    rw [R.ss, addRows_rows]
  · rw [el]; exact F.last
theorem turn_books {ms ms' : MS} (h : turnM names most room ms = .inl ms') : ms'.books.length = ms.books.length + 1 := by
  unfold turnM at h
  dsimp only at h
  split at h
  · cases h
  · simp only [Sum.inl.injEq] at h
    subst h
    show ((pushM _ _ _).books ++ _).length = _
    rw [List.length_append]
    have hw : ∀ (N a : Nat) (text : List Nat) (m : MS), (writeM N most room a text m).1.books = m.books := fun N a text m => by
      unfold writeM; split <;> rfl
    have hp : ∀ (n t : List Nat) (r : MS × Nat), (pushM n t r).books = r.1.books := fun n t r => by
      unfold pushM; split <;> rfl
    rw [hp, hw]; rfl
theorem steps_books : ∀ {t : Nat} {ms ms' : MS}, stepsM names most room t ms = some ms' → ms'.books.length = ms.books.length + t
  | 0, ms, ms', h => by cases h; rfl
  | t + 1, ms, ms', h => by
    unfold stepsM at h
    cases e : turnM names most room ms with
    | inr r => rw [e] at h; cases h
    | inl ms1 =>
      rw [e] at h
      rw [steps_books h, turn_books e]; omega
/-- deeds whose words end -/
theorem deeds_run (h5 : 5 ≤ names.length) (h8 : names.length ≤ 8) (hk : ∀ a, a < names.length → known names (names.getD a []) = [a]) (hm : 1 ≤ most) (hr : 1 ≤ room) : ∀ (nums : List Int) {acc : List Nat} {ds : DS} {ms : MS} {R : List Nat}, Rel names.length room acc ds ms → ms.rest = (nums.map fun n => chunk1 names n ++ chunk2 n).flatten ++ R →
    ∃ t ms' acc', t ≤ 9 * nums.length ∧ stepsM names most room t ms = some ms' ∧ Rel names.length room acc' (nums.foldl (fun ds num => deedStep names room num ds) ds) ms' ∧ ms'.rest = R
  | [], acc, ds, ms, R, h, hrest => ⟨0, ms, acc, by simp, rfl, h, by simpa using hrest⟩
  | num :: nums, acc, ds, ms, R, h, hrest => by
    simp only [List.map_cons, List.flatten_cons, List.append_assoc] at hrest
    obtain ⟨t, ms1, t1, t2, R1, r1, _⟩ := deed_run h5 h8 hk hm hr h hrest (token_chunk2 num _)
    obtain ⟨t', ms', acc', u1, u2, R2, r2⟩ := deeds_run h5 h8 hk hm hr nums R1 r1
    exact ⟨t + t', ms', acc', by simp only [List.length_cons]; omega, steps_add t2 u2, R2, r2⟩
end
/-- the pages are the words, end to end -/
theorem build_page (names : List (List Nat)) (room : Int) : ∀ (nums : List Int) (ds : DS), (nums.foldl (fun ds num => deedStep names room num ds) ds).page = ds.page ++ (nums.map fun n => chunk1 names n ++ chunk2 n).flatten
  | [], ds => by simp
  | num :: nums, ds => by
    rw [List.foldl_cons, build_page names room nums]
    show (ds.page ++ chunk1 names num) ++ chunk2 num ++ _ = _
    simp [List.append_assoc]
end Mine

end
section
open PySem PySem.W PyProof.Rows PySem.Calls PyProof.Rows.LCg
set_option linter.unusedVariables false
namespace Mine
theorem names_known (N : Nat) (h5 : 5 ≤ N) (h8 : N ≤ 8) : (∀ a, a < (allNames.take N).length → known (allNames.take N) ((allNames.take N).getD a []) = [a]) ∧ known (allNames.take N) [] = [] := by
  match N, h5, h8 with
  | 5, _, _ => decide
  | 6, _, _ => decide
  | 7, _, _ => decide
  | 8, _, _ => decide
  | N + 9, _, h => omega
theorem signs_mem (b o : Bool) : ∀ (word : List Nat) (k : Nat), ∀ c ∈ signs b o k word, c = 92 ∨ c ∈ word
  | [], k, c, h => by simp [signs] at h
  | d :: r, k, c, h => by
    rw [signs, sign1] at h
    rcases List.mem_append.mp h with h | h
    · rcases List.mem_append.mp h with h | h
      · split at h
        · exact .inl (List.mem_singleton.mp h)
        · cases h
      · rw [List.mem_singleton.mp h]; exact .inr (.head _)
    · rcases signs_mem b o r (k + 1) c h with h | h
      · exact .inl h
      · exact .inr (.tail _ h)
theorem written_lt {word white : List Nat} {manner : Int} (h1 : ∀ c ∈ word, c < 128) (h2 : ∀ c ∈ white, c < 128) : ∀ c ∈ written word manner white, c < 128 := fun c hc => by
  have hs : ∀ b, c ∈ signs b (manner % 2 == 1) 0 word → c < 128 := fun b hb => by
    rcases signs_mem b _ word 0 c hb with h | h
    · rw [h]; decide
    · exact h1 c h
  unfold written at hc
  split at hc
  · rcases List.mem_append.mp hc with h | h
    · exact hs _ h
    · exact h2 c h
  · rcases List.mem_append.mp hc with h | h
    · rcases List.mem_cons.mp h with h | h
      · rw [h]; decide
      · exact hs _ h
    · rw [List.mem_singleton.mp h]; decide
theorem dWhite_lt (num : Int) : ∀ c ∈ dWhite num, c < 128 := fun c hc => by
  obtain ⟨w, e, _, h⟩ := dWhite_wh num
  rw [e] at hc
  rw [List.mem_singleton.mp hc]; exact h
theorem dText_lt (num : Int) : ∀ c ∈ dText num, c < 128 := fun c hc => by
  have := dText_all num
  rw [List.all_eq_true] at this
  simpa using this c hc
theorem chunk1_lt {names : List (List Nat)} (hn : ∀ x ∈ names, ∀ c ∈ x, c < 128) (num : Int) : ∀ c ∈ chunk1 names num, c < 128 := fun c hc => by
  rcases List.mem_append.mp hc with h | h
  · exact (dAhead_wh num c h).2
  · refine written_lt (fun c hc => ?_) (dWhite_lt num) c h
    by_cases hi : dI names.length num < names.length
    · exact hn _ (getD_mem hi) c hc
    · rw [List.getD_eq_getElem?_getD, List.getElem?_eq_none (by omega)] at hc; cases hc
theorem chunk2_lt (num : Int) : ∀ c ∈ chunk2 num, c < 128 := fun c hc => by
  rcases List.mem_append.mp hc with h | h
  · exact (dAhead_wh num c h).2
  · exact written_lt (dText_lt num) (dWhite_lt num) c h
theorem rests_ok (names : List (List Nat)) (room : Int) : ∀ (nums : List Int) (ds : DS), StrsOk ds.rests → StrsOk (nums.foldl (fun ds num => deedStep names room num ds) ds).rests
  | [], ds, h => h
  | num :: nums, ds, h => by
    rw [List.foldl_cons]
    refine rests_ok names room nums _ fun r hr c hc => ?_
    rcases List.mem_append.mp hr with hr | hr
    · exact h r hr c hc
    · obtain ⟨k, _, rfl⟩ := List.mem_map.mp hr
      have := dText_lt num c (List.mem_of_mem_drop hc)
      omega
theorem allNames_lt : ∀ x ∈ allNames, ∀ c ∈ x, c < 128 := by decide
theorem zero_sum : ∀ l : List Int, (l.map fun _ => (0 : Int)).sum = 0
  | [] => rfl
  | _ :: r => by rw [List.map_cons, List.sum_cons, zero_sum r]; rfl
theorem pure_ok (ns : List Int) : ∃ msf, PureOk ns msf := by
  obtain ⟨n5, n8⟩ := nN_le ns
  have nlen := names_len ns
  obtain ⟨r3, r7⟩ := room_le ns
  obtain ⟨hk, hk0⟩ := names_known (nN ns) n5 n8
  change (∀ a, a < (namesL ns).length → known (namesL ns) ((namesL ns).getD a []) = [a]) at hk
  change known (namesL ns) [] = [] at hk0
  have l5 : ((drawn ns).drop 1).length = 5 := by rw [List.length_drop, drawn_len]
  obtain ⟨init, last, hnums⟩ : ∃ init last, (drawn ns).drop 1 = init ++ [last] := by
    have hne : (drawn ns).drop 1 ≠ [] := by intro z; rw [z] at l5; cases l5
    exact ⟨_, _, (List.dropLast_concat_getLast hne).symm⟩
  have linit : init.length = 4 := by
    have := congrArg List.length hnums
    rw [l5, List.length_append] at this
    simp at this; omega
  have hds : dsL ns = deedStep (namesL ns) (roomI ns) last (init.foldl (fun ds num => deedStep (namesL ns) (roomI ns) num ds) (ds0 (namesL ns))) := by
    unfold dsL buildL; rw [hnums, List.foldl_append]; rfl
  have hpage : (dsL ns).page = ((init.map fun n => chunk1 (namesL ns) n ++ chunk2 n).flatten ++ chunk1 (namesL ns) last) ++ chunk2 last := by
    rw [hds]
    show ((init.foldl (fun ds num => deedStep (namesL ns) (roomI ns) num ds) (ds0 (namesL ns))).page ++ chunk1 (namesL ns) last) ++ chunk2 last = _
    rw [build_page]; rfl
  -- the last word's end
  obtain ⟨T, hT, hPT⟩ : ∃ T, token T = (dText last, []) ∧ pageL ns = (init.map fun n => chunk1 (namesL ns) n ++ chunk2 n).flatten ++ (chunk1 (namesL ns) last ++ T) ∧ (∀ c ∈ T, c < 128) := by
    by_cases hd : d0 ns / 60 % 3 > 0
    · have he : TailOk (if d0 ns / 60 % 3 = 1 then [] else [92]) := by split <;> simp [TailOk]
      refine ⟨(chunk2 last).dropLast ++ (if d0 ns / 60 % 3 = 1 then [] else [92]), token_chunk2_cut last he, ?_, fun c hc => ?_⟩
      · unfold pageL finalPage
        rw [if_pos hd, hpage, List.dropLast_append_of_ne_nil (chunk2_ne last)]
        simp only [List.append_assoc]
      · rcases List.mem_append.mp hc with h | h
        · exact chunk2_lt last c (List.dropLast_subset _ h)
        · split at h
          · cases h
          · rw [List.mem_singleton.mp h]; decide
    · refine ⟨chunk2 last, ?_, ?_, chunk2_lt last⟩
      · have := token_chunk2 last []
        rw [List.append_nil] at this; exact this
      · unfold pageL finalPage
        rw [if_neg hd, hpage, List.append_assoc]
  obtain ⟨hPT, hTlt⟩ := hPT
  have R0 : Rel (namesL ns).length (roomI ns) [] (ds0 (namesL ns)) (ms0 (pageL ns) (roomI ns)) := by
    refine ⟨rfl, ?_, rfl, rfl, ⟨rfl, fun q hq => ?_, fun nn td h => by simp [ms0] at h⟩, rfl, ds0_rows _⟩
    · unfold canonL; rw [if_neg (by simp)]; simp [ms0]
    · rw [pathSum_told (by omega) hq]
      exact zero_sum _
  obtain ⟨t1, ms1, acc1, u1, u2, R1, r1⟩ := deeds_run (most := 1 + d0 ns % 3) (by omega) (by omega) hk (by omega) (by omega) init R0 (show (ms0 (pageL ns) (roomI ns)).rest = _ from hPT)
  obtain ⟨t2, ms2, w1, w2, R2, r2, lst⟩ := deed_run (most := 1 + d0 ns % 3) (by omega) (by omega) hk (by omega) (by omega) R1 r1 hT
  rw [← hds] at R2
  have hst := steps_add u2 w2
  have ht : t1 + t2 ≤ 45 := by rw [linit] at u1; omega
  have hrun : runM (namesL ns) (1 + d0 ns % 3) (roomI ns) 60 (ms0 (pageL ns) (roomI ns)) = some ([], ms2) := by
    obtain ⟨f, hf⟩ : ∃ f, 60 = (t1 + t2) + (f + 1) := ⟨60 - (t1 + t2) - 1, by omega⟩
    rw [hf, steps_run hst]
    have e : turnM (namesL ns) (1 + d0 ns % 3) (roomI ns) ms2 = .inr ([], ms2) := by
      unfold turnM
      have g : getTok ms2.pb ms2.rest = ([], [], []) := by rw [R2.pb, r2]; rfl
      rw [g]
      dsimp only
      rw [hk0]
      have : ({ ms2 with pb := [], rest := [] } : MS) = ms2 := by
        have q1 := R2.pb
        cases ms2; simp only at q1 r2; subst q1 r2; rfl
      rw [this]
    show (match turnM _ _ _ ms2 with | .inr r => some r | .inl ms' => runM _ _ _ f ms') = _
    rw [e]
  have hb := steps_books hst
  refine ⟨ms2, hrun, R2.pb, r2, R2.fl, R2.rf, ?_, fun nn td h => ?_, ?_, rests_ok _ _ _ _ (fun r hr => by cases hr), by rw [hb]; show 0 + _ ≤ _; omega⟩
  · obtain ⟨pre, hpre⟩ := lst
    exact ⟨pre, by rw [hpre, R2.wl]⟩
  · obtain ⟨b1, b2, b3⟩ := R2.inv.bk nn td h
    refine ⟨b1, rowAll (namesL ns).length (List.take nn (acc1 ++ List.replicate (dText last).length (dI (namesL ns).length last))), ?_, ?_⟩
    · rw [R2.ss]
      unfold rowsOf
      rw [List.getElem?_map, List.getElem?_range (by omega)]; rfl
    · unfold rowAll
      refine List.map_congr_left fun q hq => ?_
      exact b3 q (List.mem_range.mp hq)
  · have nlt : ∀ x ∈ namesL ns, ∀ c ∈ x, c < 128 := fun x hx => allNames_lt x (List.mem_of_mem_take hx)
    rw [List.all_eq_true, hPT]
    intro c hc
    refine decide_eq_true ?_
    rcases List.mem_append.mp hc with h | h
    · obtain ⟨l, hl, hcl⟩ := List.mem_flatten.mp h
      obtain ⟨n, _, rfl⟩ := List.mem_map.mp hl
      rcases List.mem_append.mp hcl with h | h
      · exact chunk1_lt nlt n c h
      · exact chunk2_lt n c h
    · rcases List.mem_append.mp h with h | h
      · exact chunk1_lt nlt last c h
      · exact hTlt c h
end Mine

end
section
open PySem PySem.W PyProof.Rows PySem.Calls PyProof.Rows.LCg
set_option linter.unusedVariables false
namespace Mine
/-- the first block, entered: no frame lies further out -/
theorem am_enter0 {w : World} {g : Heap} {H0 : Addr → Option AO} {news : List (Addr × Obj)} {s : Shared} {A : Around} {E : Value → Shared → Prop} {Q : Env → Shared → Prop} (F' : FnS) {scope : Scope} {clos : List (Str × Addr)} {binds : List (Str × Value)} {qual : Str} {func : Option Addr} {code : Value}
    (hg : s.gens = #[]) (gnd : Gnd w g) (gk : ∀ b o, g.get? b = some o → s.heap.get? b = some o) (gsz : g.objs.size ≤ s.heap.objs.size) (ND2 : (news.map (·.1)).Nodup) (N2 : ∀ p ∈ news, s.heap.get? p.1 = some p.2 ∧ g.get? p.1 = none) (q : ∀ a ao, H0 a = some ao → ∃ o, (a, o) ∈ news ∧ ao.Is o)
    (ok : ∀ L g outs, EnvOk F' ⟨w, g, s.os, newEnv scope L mainGlobals (cellsFrom (L + 1) scope.names clos) qual func code none builtinsNs, (List.range (cvs scope.names).length).map (L + 1 + ·), [], outs⟩)
    (k : ∀ C' s', C'.w = w → C'.g = g → C'.os = s.os → C'.outs = [] → C'.env = newEnv scope C'.L mainGlobals (cellsFrom (C'.L + 1) scope.names clos) qual func code none builtinsNs → C'.ca = (List.range (cvs scope.names).length).map (C'.L + 1 + ·) → (∀ a, C'.L ≤ a → H0 a = none) →
      At F' C' ⟨List.replicate F'.nm.length none, hcells H0 C'.L (cvs scope.names).length⟩ s' →
      Wp w A (forIn binds PUnit.unit fun x _ => do storeName (newEnv scope C'.L mainGlobals (cellsFrom (C'.L + 1) scope.names clos) qual func code none builtinsNs) x.1 x.2; pure (ForInStep.yield PUnit.unit))
        (fun _ s'' => Q (newEnv scope C'.L mainGlobals (cellsFrom (C'.L + 1) scope.names clos) qual func code none builtinsNs) s'') E s') :
    Wp w A (newFunctionEnv scope mainGlobals clos binds qual func code none builtinsNs) Q E s := by
  refine ⟨?_⟩
  have key : ∀ (cl : String), wpAny (model PP w) A (forIn binds PUnit.unit fun x _ => do storeName (newEnv scope s.heap.objs.size mainGlobals (cellsFrom (s.heap.objs.size + 1) scope.names clos) qual func code none builtinsNs) x.1 x.2; pure (ForInStep.yield PUnit.unit))
        (fun _ s'' => Q (newEnv scope s.heap.objs.size mainGlobals (cellsFrom (s.heap.objs.size + 1) scope.names clos) qual func code none builtinsNs) s'') E { s with heap := pushCells (s.heap.push { cls := .type cl, data := .dict #[] }) scope.names } := by
    intro cl
    let C' : Cx := ⟨w, g, s.os, newEnv scope s.heap.objs.size mainGlobals (cellsFrom (s.heap.objs.size + 1) scope.names clos) qual func code none builtinsNs, (List.range (cvs scope.names).length).map (s.heap.objs.size + 1 + ·), [], []⟩
    have hL : C'.L = s.heap.objs.size := rfl
    have keep : ∀ b o, s.heap.get? b = some o → (pushCells (s.heap.push { cls := .type cl, data := .dict #[] }) scope.names).get? b = some o := fun b o e => pushCells_keeps _ _ b o (Heap.get?_push_of_some _ e)
    have cg : ∀ i, i < (cvs scope.names).length → (pushCells (s.heap.push { cls := .type cl, data := .dict #[] }) scope.names).get? (s.heap.objs.size + 1 + i) = some cellObj := fun i hi => by
      have := push_get (l := scope.names) (h := s.heap.push { cls := .type cl, data := .dict #[] }) hi
      rw [Heap.size_push] at this; exact this
    have hns : (pushCells (s.heap.push { cls := .type cl, data := .dict #[] }) scope.names).Ns C'.L (fun _ => none) := by
      rw [hL]; exact (Heap.Ns.new s.heap (.type cl)).keeps (pushCells_keeps _ _)
    have gnone : ∀ a, s.heap.objs.size ≤ a → C'.g.get? a = none := fun a ha => by
      cases z : C'.g.get? a with
      | none => rfl
      | some o => exact absurd (Nat.lt_of_lt_of_le (Heap.lt_size z) gsz) (Nat.not_lt.mpr ha)
    have n2lt : ∀ p ∈ news, p.1 < s.heap.objs.size := fun p hp => Heap.lt_size (N2 p hp).1
    have hA : At F' C' ⟨List.replicate F'.nm.length none, hcells H0 C'.L (cvs scope.names).length⟩ { s with heap := pushCells (s.heap.push { cls := .type cl, data := .dict #[] }) scope.names } := by
      refine ⟨hg, rfl, gnd, ok _ _ _, fun _ => none, (List.range (cvs scope.names).length).map (fun i => (s.heap.objs.size + 1 + i, cellObj)) ++ news, ⟨hns, fun b o e => keep b o (gk b o e), ?_⟩, fun p hp => ?_, ?_, fun i x av hx hv => ?_, fun a ao ha => ?_, fun p hp => (by cases hp), fun a ao ha p hp => (by cases hp)⟩
      · rw [hL]; exact gsz
      · rcases List.mem_append.mp hp with hp | hp
        · obtain ⟨i, hi, rfl⟩ := List.mem_map.mp hp
          rw [List.mem_range] at hi
          refine ⟨cg i hi, ?_, gnone _ (Nat.le_trans (Nat.le_succ _) (Nat.le_add_right _ _))⟩
          rw [hL]; exact Nat.ne_of_gt (Nat.lt_of_lt_of_le (Nat.lt_succ_self _) (Nat.le_add_right _ _))
        · refine ⟨keep _ _ (N2 p hp).1, ?_, (N2 p hp).2⟩
          rw [hL]; exact Nat.ne_of_lt (n2lt p hp)
      · rw [List.map_append, List.nodup_append]
        refine ⟨?_, ND2, fun a ha b hb z => ?_⟩
        · rw [List.map_map]
          refine List.Pairwise.map _ (fun a b (z : a ≠ b) z' => z ?_) List.nodup_range
          exact Nat.add_left_cancel z'
        · obtain ⟨p, hp, rfl⟩ := List.mem_map.mp ha
          obtain ⟨i, hi, rfl⟩ := List.mem_map.mp hp
          obtain ⟨p', hp', rfl⟩ := List.mem_map.mp hb
          have := n2lt p' hp'
          rw [← z] at this
          exact absurd this (Nat.not_lt.mpr (Nat.le_trans (Nat.le_succ _) (Nat.le_add_right _ _)))
      · dsimp only at hv
        rw [List.getElem?_replicate] at hv
        split at hv <;> cases hv
      · dsimp only [hcells] at ha
        split at ha
        · rename_i z
          cases ha
          refine ⟨cellObj, List.mem_append_left _ (List.mem_map.mpr ⟨a - (s.heap.objs.size + 1), List.mem_range.mpr ?_, ?_⟩), .inl ⟨rfl, rfl⟩⟩
          · rw [hL] at z
            exact Nat.sub_lt_left_of_lt_add z.1 (Nat.lt_of_le_of_lt z.2 (by rw [Nat.add_right_comm]; exact Nat.lt_succ_self _))
          · rw [hL] at z
            have : s.heap.objs.size + 1 + (a - (s.heap.objs.size + 1)) = a := Nat.add_sub_cancel' z.1
            rw [this]
        · obtain ⟨o, hm, hi⟩ := q a ao ha; exact ⟨o, List.mem_append_right _ hm, hi⟩
    have := (k C' _ rfl rfl rfl rfl rfl rfl (fun a ha => by
      cases z : H0 a with
      | none => rfl
      | some ao =>
        obtain ⟨o, hm, _⟩ := q a ao z
        exact absurd (n2lt _ hm) (Nat.not_lt.mpr ha)) hA).ok
    exact this
  have lay : ∀ (cl : String) (f : Str × NameKind → List (Str × Addr) → Sem (ForInStep (List (Str × Addr)))) (_ : ∀ name kind cells, f (name, kind) cells = if kind == .cell then (do let a ← alloc { cls := .type "cell", data := .cell none }; pure (.yield ((name, a) :: cells))) else pure (.yield cells))
      (P : List (Str × Addr) → Shared → Prop), P (cellsFrom (s.heap.objs.size + 1) scope.names clos) { s with heap := pushCells (s.heap.push { cls := .type cl, data := .dict #[] }) scope.names } →
      wpAny (model PP w) A (forIn scope.names clos f) P E { s with heap := s.heap.push { cls := .type cl, data := .dict #[] } } := by
    intro cl f hf P hP
    refine wpAny_layCells f hf _ _ _ _ ?_
    rw [show ({ s with heap := s.heap.push { cls := .type cl, data := .dict #[] } } : Shared).heap.objs.size = s.heap.objs.size + 1 from Heap.size_push ..]
    exact hP
  simp only [newFunctionEnv, Option.isSome_none, Bool.false_eq_true, if_false]
  refine wpAny_bind (wpAny_alloc (wpAny_bind (lay _ _ (fun name kind cells => by cases hkc : kind == NameKind.cell <;> simp [hkc]) _ ?_)))
  exact wpAny_bind (wpAny_mono (key _) (fun _ s' x => wpAny_pure x) fun _ _ x => x)
theorem kLaw (w : World) : FnC fLaw (fdK w 162) := ⟨by kernel_rfl!, by kernel_rfl!, by kernel_rfl!, by kernel_rfl!, by kernel_rfl!⟩
noncomputable abbrev tabsL : List (Addr × Addr) := [(144, 140), (151, 147)]
/-- the call of law -/
theorem law_call {w : World} {s : Shared} {mean : ExcName → Option Value} {mg mb : Str → Option Value} {p : Program} {loose : List Str} {scr : Addr} {vs : List Value} {ns : List Int} {R : Result → Shared → Prop} (hg : s.gens = #[]) (KX : (KK w).In s.heap) (hT : TabsAt tabsL s.heap) (T : Top p loose mean mg mb s.heap)
    (hL : s.heap.IsList scr vs.toArray) (hI : IntsAre vs ns) (hn : ns.length ≤ 63)
    (k : ∀ s', s'.gens = #[] → s'.os = s.os → (∀ b o, (ghostOf s.heap tabsL).get? b = some o → s'.heap.get? b = some o) → GrownAll tabsL s'.heap → R (.ok (.ret (.bool true))) s') :
    Cd w callerA (.call (.ref 162) ⟨[.ref scr], []⟩) R s := by
  have hK : (KK w).lookup 162 = some (obK w 162) := by kernel_rfl!
  have hd : (obK w 162).data = .func (fdK w 162) := by kernel_rfl!
  have hbody : (fdK w 162).body = .stmts bLaw := by kernel_rfl!
  have S := kLaw w
  have X' := ghost_K hT KX (by kernel_rfl!)
  have T' := ghost_top hT T
  have gnd : Gnd w (ghostOf s.heap tabsL) := ⟨X', ⟨_, _, _, mg, mb, T', fun x hx => mg_none_of X' T'.g hx⟩, (ghost_code hT).1, (ghost_code hT).2.1⟩
  have gk : ∀ b o, (ghostOf s.heap tabsL).get? b = some o → s.heap.get? b = some o := fun b o e => of_hideAll _ e
  have gsz : (ghostOf s.heap tabsL).objs.size ≤ s.heap.objs.size := Nat.le_of_eq (hideAll_size _ _)
  have hscr : (ghostOf s.heap tabsL).IsList scr vs.toArray := ghost_list hT hL
  have hv : ∀ {vs : List Value} {ns : List Int}, IntsAre vs ns → vs.map er = ns.map AV.int := fun h => by
    induction h with
    | nil => rfl
    | cons i t h ih => rw [List.map_cons, List.map_cons, ih]; rfl
  refine ⟨codeAny_call_function (body := bLaw) (by decide) (KX _ _ hK) hd S.co S.gen hbody (codeRec_of KX (by kernel_rfl!)) ?_⟩
  rw [show bindArgs (fdK w 162) ⟨[Value.ref scr], []⟩ = pure [(("script" : Str), Value.ref scr)] by kernel_rfl!]
  refine wpAny_pure ?_
  rw [S.glob, S.blt]
  have ncl : (fdK w 162).closure = [] := by kernel_rfl!
  refine (am_enter0 (w := w) (g := ghostOf s.heap tabsL) (H0 := fun a => if a = 140 ∨ a = 147 then some (.raw (tabObj #[])) else none) (news := [(140, tabObj #[]), (147, tabObj #[])]) fLaw hg gnd gk gsz (by decide) (fun q hq => ?_) (fun a ao ha => ?_) (fun L g outs => envOk_of S.chk (fun i x c hx _ => by simp [fLaw] at hx) rfl) fun C' s' hw hgg hos hout he hca fr h' => ?_).ok
  · revert q hq
    exact allC (⟨(hT (144, 140) (by simp)).2, hideAll_none _ (by simp)⟩) <| allC (⟨(hT (151, 147) (by simp)).2, hideAll_none _ (by simp)⟩) <| allN
  · split at ha
    · rename_i z
      cases ha
      rcases z with rfl | rfl <;> exact ⟨_, by simp, rfl⟩
    · cases ha
  · have hnc : (cvs (fdK w 162).scope.names).length = 7 := by kernel_rfl!
    rw [hnc] at hca h'
    have hfr : C'.env.frame = some C'.L := by rw [he]; rfl
    have cells : ∃ c0 c1 c2 c3 c4 c5 c6 H, C'.ca = [c0, c1, c2, c3, c4, c5, c6] ∧ At fLaw C' ⟨List.replicate 17 none, H⟩ s' ∧ Lg E0 [] H [(c0, .cell none), (c1, .cell none), (c2, .cell none), (c3, .cell none), (c4, .cell none), (c5, .cell none), (c6, .cell none), (140, .raw (tabObj #[])), (147, .raw (tabObj #[]))] := by
      refine ⟨C'.L + 1 + 0, C'.L + 1 + 1, C'.L + 1 + 2, C'.L + 1 + 3, C'.L + 1 + 4, C'.L + 1 + 5, C'.L + 1 + 6, _, hca, h', ?_, ?_, fun _ _ => .inr rfl, fun a ha => (by cases ha), fun a ao _ e => (by cases e)⟩
      · have ne : ∀ i j : Nat, i ≠ j → C'.L + 1 + i ≠ C'.L + 1 + j := fun i j n z => n (Nat.add_left_cancel z)
        have f0 : ∀ i : Nat, (fun a : Addr => if a = 140 ∨ a = 147 then some (AO.raw (tabObj #[])) else none) (C'.L + 1 + i) = none := fun i => fr _ (Nat.le_trans (Nat.le_succ _) (Nat.le_add_right _ _))
        have n1 : ∀ i, C'.L + 1 + i ≠ 140 := fun i z => by have := f0 i; rw [z] at this; simp at this
        have n2 : ∀ i, C'.L + 1 + i ≠ 147 := fun i z => by have := f0 i; rw [z] at this; simp at this
        simp only [List.map_cons, List.map_nil, List.nodup_cons, List.mem_cons, List.not_mem_nil, or_false, not_or, not_false_eq_true, List.nodup_nil, and_true]
        refine ⟨⟨ne _ _ (by decide), ne _ _ (by decide), ne _ _ (by decide), ne _ _ (by decide), ne _ _ (by decide), ne _ _ (by decide), n1 _, n2 _⟩, ⟨ne _ _ (by decide), ne _ _ (by decide), ne _ _ (by decide), ne _ _ (by decide), ne _ _ (by decide), n1 _, n2 _⟩, ⟨ne _ _ (by decide), ne _ _ (by decide), ne _ _ (by decide), ne _ _ (by decide), n1 _, n2 _⟩, ⟨ne _ _ (by decide), ne _ _ (by decide), ne _ _ (by decide), n1 _, n2 _⟩, ⟨ne _ _ (by decide), ne _ _ (by decide), n1 _, n2 _⟩, ⟨ne _ _ (by decide), n1 _, n2 _⟩, ⟨n1 _, n2 _⟩, by decide⟩
      · have ci : ∀ i, i < 7 → hcells (fun a : Addr => if a = 140 ∨ a = 147 then some (AO.raw (tabObj #[])) else none) C'.L 7 (C'.L + 1 + i) = some (.cell none) := fun i hi => hcells_at hi
        have kp : Kp (fun a : Addr => if a = 140 ∨ a = 147 then some (AO.raw (tabObj #[])) else none) (hcells (fun a : Addr => if a = 140 ∨ a = 147 then some (AO.raw (tabObj #[])) else none) C'.L 7) := (Kp.refl _).cells fr
        exact allC (ci 0 (by decide)) <| allC (ci 1 (by decide)) <| allC (ci 2 (by decide)) <| allC (ci 3 (by decide)) <| allC (ci 4 (by decide)) <| allC (ci 5 (by decide)) <| allC (ci 6 (by decide)) <| allC (kp 140 _ (by simp)) <| allC (kp 147 _ (by simp)) <| allN
    obtain ⟨c0, c1, c2, c3, c4, c5, c6, H, hca, h', G⟩ := cells
    obtain ⟨msf, P⟩ := pure_ok ns
    have bind : Wp C'.w callerA.in1 (forIn [(("script" : Str), Value.ref scr)] PUnit.unit (bindStep C'.env)) (fun _ s'' => s''.heap.NoLimit ∧ codeAny (model PP w) callerA (.func bLaw C'.env) R s'') (fun e s' => R (.error e) s') s' := by
      refine wp_bind1 (am_store 0 h' rfl fun s₂ h₂ => wp_bind0 ⟨h₂.noLimit, codeAny_func ?_⟩)
      have h₂ : At fLaw C' ⟨lm scr none none none none none none none none none none none none none none none none, H⟩ s₂ := h₂
      have lf : LFr C' (callerA.deeper C'.env) [] 0 [c0, c1, c2, c3, c4, c5, c6] := by
        refine ⟨hca, ⟨by rw [depth_deeper]; decide, by rw [units_deeper]; decide, rfl⟩, ⟨Around.frames_deeper rfl, fun e he' => ?_⟩, hfr, by rw [he]; kernel_rfl!⟩
        rw [List.mem_singleton.mp he']
        exact ⟨h₂.env.kind, _, hfr, .inl rfl⟩
      have walk := law_walk (Q := fun fl s₃ => R (.ok (.ret (retOf fl))) s₃) (E := fun e s₂ => wpAny (model PP w) (callerA.deeper C'.env) (leaving C'.env e) (fun _ s₃ => R (.error e) s₃) (fun e' s₃ => R (.error e') s₃) s₂) h₂ lf (by rw [hgg]; exact hscr) (hv hI) hn G P fun σ' s₃ h₃ t1 t2 => by
        refine k s₃ h₃.gens (h₃.os.trans hos) (fun b o e => h₃.keep b o (by rw [hgg]; exact e)) ⟨?_, ?_, trivial⟩
        · obtain ⟨ps, e⟩ := t1
          obtain ⟨o, ho, hi, _⟩ := h₃.get e
          cases hi
          exact ⟨ps, ho⟩
        · obtain ⟨ps, e⟩ := t2
          obtain ⟨o, ho, hi, _⟩ := h₃.get e
          cases hi
          exact ⟨ps, ho⟩
      rw [hw] at walk
      refine wpAny_mono walk.ok (fun fl s₃ hl' => ?_) fun _ _ y => y
      cases fl <;> exact hl'
    rw [hw, he] at bind
    exact bind
end Mine

end
open PySem PySem.W PyProof.Rows
set_option maxHeartbeats 8000000 in
theorem PySem.Challenge.cw_pk0037_01_holds : PySem.Challenge.rw_pk0037_01.Holds := by
  refine Mine.hd37 ?_
  intro w s₀ s₁ mg mb G Y fa o pm cd doc dV kV ho hd hcd hD hmg hg args vals as hpre hlay hrd hwl hlo
  have KX := km_in_of Y
  have hT8 := km_tabs_of Y
  refine Ground.open G ?_
  intro T B D TE TW
  have hfa : fa = 162 := by
    have h1 := mg_of (n := Str.ofString "law") KX (Top.g T) (show nsIn (Mine.hd37.heap_1 w.params) mainGlobals (Str.ofString "law") = some (some (.ref 162)) by kernel_rfl!)
    have h2 := h1.symm.trans hmg
    cases h2; rfl
  subst hfa
  have hT9 : TabsAt Mine.tabsL s₁.heap := fun q hq => by
    simp only [Mine.tabsL, List.mem_cons, List.not_mem_nil, or_false] at hq
    rcases hq with rfl | rfl
    · exact ⟨codeHd_of_K KX (by kernel_rfl!), hT8 140 (by simp)⟩
    · exact ⟨codeHd_of_K KX (by kernel_rfl!), hT8 147 (by simp)⟩
  clear hd hcd hD ho hmg
  wrow_args hpre hlay hrd hwl hlo
  rename_i ns hs hlay0 hL1 hr1 hl2 a1 a2 scr vs a3 hL ra w1 r0 hI hr hcond hc2
  refine enter_call (kn_post hT9 (fun _ _ => rfl) ?_)
  refine (Mine.law_call hg KX hT9 T hL hI (by omega) fun s' e1 e2 e3 e4 => ⟨⟨.inl ⟨.bool true, .bool true, [], rfl, fun _ => rfl, .bool true, ?_, fun _ => ⟨.nil, fun a ha => by cases ha⟩⟩, e3, e2, e1⟩, e4⟩).ok
  wrow_post

end