import PyProof.Rows.All
import Wide.All
import OpenK.AllK
import Wide.FinOn
import Lean
import PySem.Challenge.RW_iu0043_05
open PySem PySem.Spec PySem.Calls PyProof.Rows PySem.W
set_option Elab.async false
set_option maxRecDepth 100000
set_option maxHeartbeats 8000000
set_option linter.all false
set_option compiler.extract_closed false
set_option genSizeOf false
namespace Mc

noncomputable def er : Value → Value
  | .int i _ => .int i 0
  | .str s _ => .str s 0
  | .bytes b _ => .bytes b 0
  | .float b _ => .float b 0
  | v => v

noncomputable def Ret (X : Value) (Q : Value → Shared → Prop) (s : Shared) : Prop := match X with
  | .int i _ => ∀ t, Q (.int i t) s
  | .str x _ => ∀ t, Q (.str x t) s
  | .bytes b _ => ∀ t, Q (.bytes b t) s
  | .float b _ => ∀ t, Q (.float b t) s
  | v => Q v s
theorem erInt {i : Int} {t : Tok} : er (.int i t) = .int i 0 := rfl
theorem erStr {i : Str} {t : Tok} : er (.str i t) = .str i 0 := rfl
theorem erRef {a : Addr} : er (.ref a) = .ref a := rfl
theorem erNone : er .none = .none := rfl
theorem erBool {b : Bool} : er (.bool b) = .bool b := rfl
theorem erBi {b : String} : er (.builtin b) = .builtin b := rfl
theorem erTy {b : String} : er (.type b) = .type b := rfl
inductive ErL : List Value → List Value → Prop
  | nil : ErL [] []
  | cons {v X us vs} : er v = X → ErL us vs → ErL (v :: us) (X :: vs)
theorem ErL.eq {us vs : List Value} (h : ErL us vs) : us.map er = vs := by
  induction h with
  | nil => rfl
  | cons e _ ih => rw [List.map_cons, e, ih]
theorem Ret.int {i : Int} {u : Tok} {Q : Value → Shared → Prop} {s : Shared} (h : ∀ t, Q (.int i t) s) : Ret (.int i u) Q s := h
theorem Ret.str {x : Str} {u : Tok} {Q : Value → Shared → Prop} {s : Shared} (h : ∀ t, Q (.str x t) s) : Ret (.str x u) Q s := h
theorem Ret.ref {a : Addr} {Q : Value → Shared → Prop} {s : Shared} (h : Q (.ref a) s) : Ret (.ref a) Q s := h
theorem Ret.none {Q : Value → Shared → Prop} {s : Shared} (h : Q .none s) : Ret .none Q s := h
theorem Ret.bool {b : Bool} {Q : Value → Shared → Prop} {s : Shared} (h : Q (.bool b) s) : Ret (.bool b) Q s := h
theorem Ret.bi {b : String} {Q : Value → Shared → Prop} {s : Shared} (h : Q (.builtin b) s) : Ret (.builtin b) Q s := h
theorem Ret.ty {b : String} {Q : Value → Shared → Prop} {s : Shared} (h : Q (.type b) s) : Ret (.type b) Q s := h
theorem Ret.use {X v : Value} {Q : Value → Shared → Prop} {s : Shared} (h : Ret X Q s) (e : er v = X) : Q v s := by
  subst e
  cases v <;> first | exact h | exact h _

noncomputable abbrev Item := Addr × (Obj → Prop)

structure Cx where
  B : Heap
  tb : List Addr
  os : OsState

structure S (C : Cx) (its : List Item) (s : Shared) : Prop where
  keep : ∀ b o, C.B.get? b = some o → b ∉ C.tb → s.heap.get? b = some o
  own : ∀ p ∈ its, ∃ o, s.heap.get? p.1 = some o ∧ p.2 o
  new : ∀ p ∈ its, C.B.get? p.1 = none ∨ p.1 ∈ C.tb
  nd : (its.map (·.1)).Nodup
  tbs : ∀ a ∈ C.tb, ∃ o, s.heap.get? a = some o
  gens : s.gens = #[]
  os : s.os = C.os
  big : ∃ b o, 1 < b ∧ C.B.get? b = some o ∧ b ∉ C.tb
  n1 : 1 ∉ its.map (·.1)

section
variable {C : Cx} {its its' : List Item} {s : Shared}

theorem S.tk (H : S C its s) {d : Drawn} {t : Nat} : S C its ⟨s.heap, s.gens, d, t, s.os⟩ := ⟨H.keep, H.own, H.new, H.nd, H.tbs, H.gens, H.os, H.big, H.n1⟩

theorem S.size_new (H : S C its s) : C.B.get? s.heap.objs.size = none := by
  cases q : C.B.get? s.heap.objs.size with
  | none => rfl
  | some o =>
    by_cases h : s.heap.objs.size ∈ C.tb
    · obtain ⟨o', e⟩ := H.tbs _ h
      exact absurd (Heap.lt_size e) (Nat.lt_irrefl _)
    · exact absurd (Heap.lt_size (H.keep _ _ q h)) (Nat.lt_irrefl _)
theorem S.lt (H : S C its s) {p : Item} (hp : p ∈ its) : p.1 < s.heap.objs.size := by
  obtain ⟨o, e, _⟩ := H.own p hp
  exact Heap.lt_size e

theorem S.one (H : S C its s) : 1 < s.heap.objs.size := by
  obtain ⟨b, o, h1, h2, h3⟩ := H.big
  exact Nat.lt_trans h1 (Heap.lt_size (H.keep b o h2 h3))
theorem S.push (H : S C its s) {o : Obj} {P : Obj → Prop} (hP : P o) (hf : o.isFreed = false) {d : Drawn} {t : Nat} :
    S C ((s.heap.objs.size, P) :: its) ⟨s.heap.push o, s.gens, d, t, s.os⟩ := by
  refine ⟨fun b o' e h => Heap.get?_push_of_some _ (H.keep b o' e h), fun p hp => ?_, fun p hp => ?_, ?_, fun a ha => ?_, H.gens, H.os, H.big, fun hm => ?_⟩
  · rcases List.mem_cons.mp hp with rfl | hp
    · exact ⟨o, Heap.get?_push_size _ hf, hP⟩
    · obtain ⟨o', e, h⟩ := H.own p hp
      exact ⟨o', Heap.get?_push_of_some _ e, h⟩
  · rcases List.mem_cons.mp hp with rfl | hp
    · exact .inl H.size_new
    · exact H.new p hp
  · rw [List.map_cons]
    refine List.nodup_cons.mpr ⟨fun hm => ?_, H.nd⟩
    obtain ⟨p, hp, e⟩ := List.mem_map.mp hm
    exact absurd (H.lt hp) (by rw [e]; exact Nat.lt_irrefl _)
  · obtain ⟨o', e⟩ := H.tbs a ha
    exact ⟨o', Heap.get?_push_of_some _ e⟩
  · rcases List.mem_cons.mp hm with e | hm
    · exact absurd e (Nat.ne_of_lt H.one)
    · exact H.n1 hm

/-- one item of the ledger is another -/
inductive Up (a : Addr) (P P' : Obj → Prop) : List Item → List Item → Prop
  | head {r} : Up a P P' ((a, P) :: r) ((a, P') :: r)
  | tail {p r r'} : Up a P P' r r' → Up a P P' (p :: r) (p :: r')
theorem Up.mem {a : Addr} {P P' : Obj → Prop} {l l' : List Item} (h : Up a P P' l l') : (a, P) ∈ l := by
  induction h with
  | head => exact .head _
  | tail _ ih => exact .tail _ ih
theorem Up.keys {a : Addr} {P P' : Obj → Prop} {l l' : List Item} (h : Up a P P' l l') : l'.map (·.1) = l.map (·.1) := by
  induction h with
  | head => rfl
  | tail _ ih => rw [List.map_cons, List.map_cons, ih]
theorem Up.other {a : Addr} {P P' : Obj → Prop} {l l' : List Item} (h : Up a P P' l l') : (l.map (·.1)).Nodup → ∀ p ∈ l', p = (a, P') ∨ (p ∈ l ∧ p.1 ≠ a) := by
  induction h with
  | head =>
    intro nd p hp
    refine (List.mem_cons.mp hp).imp id fun hp => ⟨.tail _ hp, fun e => ?_⟩
    exact (List.nodup_cons.mp nd).1 (e ▸ List.mem_map_of_mem (f := (·.1)) hp)
  | tail h ih =>
    intro nd p hp
    have nd := List.nodup_cons.mp nd
    refine (List.mem_cons.mp hp).elim (fun e => .inr ⟨e ▸ .head _, fun e2 => nd.1 ?_⟩) fun hp => (ih nd.2 p hp).imp id fun z => ⟨.tail _ z.1, z.2⟩
    subst e; show p.1 ∈ _; rw [e2]; exact List.mem_map_of_mem (f := (·.1)) h.mem

/-- an item of the ledger is changed in place -/
theorem S.up (H : S C its s) {a : Addr} {P P' : Obj → Prop} (U : Up a P P' its its') {h' : Heap} {o : Obj} (hs : Heap.SameBut a s.heap h') (ho : h'.get? a = some o) (hP : P' o) {d : Drawn} {t : Nat} :
    S C its' ⟨h', s.gens, d, t, s.os⟩ := by
  have hn := H.new _ U.mem
  refine ⟨fun b o' e h => ?_, fun p hp => ?_, fun p hp => ?_, by rw [U.keys]; exact H.nd, fun b hb => ?_, H.gens, H.os, H.big, by rw [U.keys]; exact H.n1⟩
  · refine (hs.2 b fun z => ?_).trans (H.keep b o' e h)
    subst z
    rcases hn with hn | hn
    · rw [hn] at e; cases e
    · exact h hn
  · rcases U.other H.nd p hp with rfl | ⟨hm, hne⟩
    · exact ⟨o, ho, hP⟩
    · obtain ⟨o', e, q⟩ := H.own p hm
      exact ⟨o', (hs.2 _ hne).trans e, q⟩
  · rcases U.other H.nd p hp with rfl | ⟨hm, _⟩
    · exact hn
    · exact H.new p hm
  · by_cases z : b = a
    · exact ⟨o, z ▸ ho⟩
    · obtain ⟨o', e⟩ := H.tbs b hb
      exact ⟨o', (hs.2 _ z).trans e⟩

theorem S.mono (H : S C its s) (hs : its'.Sublist its) : S C its' s :=
  ⟨H.keep, fun p hp => H.own p (hs.subset hp), fun p hp => H.new p (hs.subset hp), H.nd.sublist (hs.map _), H.tbs, H.gens, H.os, H.big, fun h => H.n1 ((hs.map _).subset h)⟩
theorem S.perm (H : S C its s) (hp : its.Perm its') : S C its' s :=
  ⟨H.keep, fun p h => H.own p (hp.mem_iff.mpr h), fun p h => H.new p (hp.mem_iff.mpr h), (hp.map _).nodup_iff.mp H.nd, H.tbs, H.gens, H.os, H.big, fun h => H.n1 ((hp.map _).mem_iff.mpr h)⟩
theorem S.tail {p : Item} (H : S C (p :: its) s) : S C its s := H.mono (List.sublist_cons_self _ _)

/-- the ledger less an item whose object may be anything now -/
theorem S.extBut (H : S C ((a, P) :: its) s) {h' : Heap} (hx : Heap.ExtBut a s.heap h') (ht : a ∉ C.tb) {d : Drawn} {t : Nat} : S C its ⟨h', s.gens, d, t, s.os⟩ := by
  have hn := (H.new _ (.head _)).resolve_right ht
  have nd := H.nd
  rw [List.map_cons, List.nodup_cons] at nd
  refine ⟨fun b o' e h => hx b o' (fun z => ?_) (H.keep b o' e h), fun p hp => ?_, fun p hp => H.new p (.tail _ hp), nd.2, fun b hb => ?_, H.gens, H.os, H.big, fun h => H.n1 (.tail _ h)⟩
  · subst z; rw [hn] at e; cases e
  · obtain ⟨o, e, q⟩ := H.own p (.tail _ hp)
    exact ⟨o, hx _ _ (fun z => nd.1 (by rw [← z]; exact List.mem_map_of_mem (f := (·.1)) hp)) e, q⟩
  · obtain ⟨o, e⟩ := H.tbs b hb
    exact ⟨o, hx _ _ (fun z => ht (z ▸ hb)) e⟩

/-- what a ledger says of one address -/
theorem S.get (H : S C its s) {a : Addr} {P : Obj → Prop} (hm : (a, P) ∈ its) : ∃ o, s.heap.get? a = some o ∧ P o := H.own _ hm
theorem S.sysm (H : S C its s) {a : Addr} {P : Obj → Prop} (hm : (a, P) ∈ its) : (a == sysModules) = false := by
  rw [beq_eq_false_iff_ne]
  intro e
  exact H.n1 (by rw [show (1 : Addr) = a from e.symm]; exact List.mem_map_of_mem (f := (·.1)) hm)
theorem S.ne (H : S C its s) {p q : Item} (hp : p ∈ its) (hq : q ∈ its) (hpq : p.1 = q.1) : p = q := by
  have nd := H.nd
  clear H
  induction its with
  | nil => cases hp
  | cons x l ih =>
    rw [List.map_cons, List.nodup_cons] at nd
    rcases List.mem_cons.mp hp with e1 | hp <;> rcases List.mem_cons.mp hq with e2 | hq
    · rw [e1, e2]
    · exact absurd (by rw [← e1, hpq]; exact List.mem_map_of_mem (f := (·.1)) hq) nd.1
    · exact absurd (by rw [← e2, ← hpq]; exact List.mem_map_of_mem (f := (·.1)) hp) nd.1
    · exact ih hp hq nd.2
end

/-- the text's ground: what stands behind its top; gl: what the global names and the built-in names are -/
structure Bs (prog : Program) (w : World) (K : Frag) (gl : List (Str × Value)) (C : Cx) : Prop where
  X : K.In C.B
  tk : ∀ a ∈ C.tb, K.lookup a = none
  names : ∃ mg mb, C.B.Ns mainGlobals mg ∧ C.B.Ns builtinsNs mb ∧ ∀ p ∈ gl, mg p.1 = some p.2 ∨ (mg p.1 = none ∧ mb p.1 = some p.2)
  lim : C.B.NoLimit
  dig : ∃ mc, C.B.Ns cStatics mc ∧ mc "sys.int_max_str_digits" = none
  lo : ∀ a ∈ C.tb, a ≠ mainGlobals ∧ a ≠ builtinsNs ∧ a ≠ cStatics

section
variable {prog : Program} {w : World} {K : Frag} {gl : List (Str × Value)} {C : Cx} {its : List Item} {s : Shared}
theorem Bs.k (hB : Bs prog w K gl C) (H : S C its s) : K.In s.heap := fun a o e => H.keep a o (hB.X a o e) fun h => by rw [hB.tk a h] at e; cases e
theorem Bs.ns {a : Addr} {m : Str → Option Value} (H : S C its s) (h : C.B.Ns a m) (ha : a ∉ C.tb) : s.heap.Ns a m := by
  obtain ⟨o, es, ep, e, r⟩ := h
  exact ⟨o, es, ep, H.keep _ _ e ha, r⟩
theorem Bs.L (hB : Bs prog w K gl C) (H : S C its s) : s.heap.NoLimit := by
  obtain ⟨mc, h, e⟩ := hB.lim
  exact ⟨mc, Bs.ns H h fun h => (hB.lo _ h).2.2 rfl, e⟩
end

noncomputable def nodupB : List Str → Bool
  | [] => true
  | x :: r => !r.contains x && nodupB r
theorem nodupB_iff : ∀ {l : List Str}, nodupB l = true → l.Nodup
  | [], _ => List.nodup_nil
  | x :: r, h => by
    unfold nodupB at h
    obtain ⟨h1, h2⟩ := Bool.and_eq_true_iff.mp h
    refine List.nodup_cons.mpr ⟨fun hm => ?_, nodupB_iff h2⟩
    rw [List.contains_iff_mem.mpr hm] at h1
    cases h1
theorem noCell {l : List (Str × NameKind)} (h : (l.all fun y => y.2 != .cell) = true) : ∀ y ∈ l, y.2 ≠ .cell := fun y hy e => by
  have := List.all_eq_true.mp h y hy
  rw [e] at this
  cases this

/-- a frame's names (none: not bound yet), tokens erased -/
noncomputable def NsI (loc : List (Str × Option Value)) (o : Obj) : Prop := ∃ es ep, o.data = .dict es ep ∧ StrKeys es ∧ (loc.map (·.1)).Nodup ∧ ∀ p ∈ loc, (nsFind es p.1).map er = p.2
/-- a cell -/
noncomputable def CellI (v : Option Value) (o : Obj) : Prop := ∃ u : Option Value, o.data = .cell u ∧ u.map er = v
/-- a list -/
noncomputable def ListI (vs : List Value) (o : Obj) : Prop := ∃ us n, o = { cls := .type "list", data := .seq us n } ∧ us.toList.map er = vs
noncomputable def TupI (vs : List Value) (o : Obj) : Prop := ∃ us n, o = { cls := .type "tuple", data := .seq us n } ∧ us.toList.map er = vs

/-- one name's value is another -/
inductive Pu (x : Str) (v : Option Value) : List (Str × Option Value) → List (Str × Option Value) → Prop
  | head {u r} : Pu x v ((x, u) :: r) ((x, v) :: r)
  | tail {p r r'} : Pu x v r r' → Pu x v (p :: r) (p :: r')
theorem Pu.keys {x : Str} {v : Option Value} {l l' : List (Str × Option Value)} (h : Pu x v l l') : l'.map (·.1) = l.map (·.1) := by
  induction h with
  | head => rfl
  | tail _ ih => rw [List.map_cons, List.map_cons, ih]
theorem Pu.mem {x : Str} {v : Option Value} {l l' : List (Str × Option Value)} (h : Pu x v l l') : x ∈ l.map (·.1) := by
  induction h with
  | head => exact .head _
  | tail _ ih => exact .tail _ ih
theorem Pu.other {x : Str} {v : Option Value} {l l' : List (Str × Option Value)} (h : Pu x v l l') : (l.map (·.1)).Nodup → ∀ p ∈ l', p = (x, v) ∨ (p ∈ l ∧ p.1 ≠ x) := by
  induction h with
  | head =>
    intro nd p hp
    refine (List.mem_cons.mp hp).imp id fun hp => ⟨.tail _ hp, fun e => ?_⟩
    exact (List.nodup_cons.mp nd).1 (e ▸ List.mem_map_of_mem (f := (·.1)) hp)
  | tail h ih =>
    intro nd p hp
    have nd := List.nodup_cons.mp nd
    refine (List.mem_cons.mp hp).elim (fun e => .inr ⟨e ▸ .head _, fun e2 => nd.1 ?_⟩) fun hp => (ih nd.2 p hp).imp id fun z => ⟨.tail _ z.1, z.2⟩
    subst e; show p.1 ∈ _; rw [e2]; exact h.mem

section
variable {M : Model} {A : Around} {E : Value → Shared → Prop} {C : Cx} {its its' : List Item} {s : Shared} {env : Env} {L : Addr} {loc loc' : List (Str × Option Value)} {x : Str} {pos : Pos}

theorem NsI.ns {o : Obj} {h : Heap} (hN : NsI loc o) (ho : h.get? L = some o) : ∃ m, h.Ns L m ∧ ∀ p ∈ loc, (m p.1).map er = p.2 := by
  obtain ⟨es, ep, hd, hk, _, hp⟩ := hN
  exact ⟨fun x => nsFind es x, ⟨o, es, ep, ho, hd, hk, fun _ => rfl⟩, hp⟩
theorem map_er {u : Option Value} {X : Value} (h : u.map er = some X) : ∃ v, u = some v ∧ er v = X := by
  cases u with
  | none => cases h
  | some v => exact ⟨v, rfl, Option.some.inj h⟩

theorem callEnv_locals {fd : FuncData} {L a : Addr} : (callEnv fd L a).locals = L := rfl
theorem rd_local {X : Value} {Q : Value → Shared → Prop} (H : S C its s) (hL : env.locals = L) (hm : (L, NsI loc) ∈ its) (hx : (x, some X) ∈ loc) (hk : env.scope.kind = .function) (hl : env.kindOf x = some .local)
    (hd : (x == ("__debug__" : Str)) = false) (h : Ret X Q s) : wpAny M A (eval (.Name x pos) env) Q E s := by
  obtain ⟨o, ho, hN⟩ := H.get hm
  obtain ⟨m, hns, hp⟩ := hN.ns ho
  obtain ⟨v, hv, e⟩ := map_er (hp _ hx)
  exact wpAny_Name (wpAny_loadName_local hk hl (hL ▸ hns) hv (h.use e)) hd

theorem st_local {v X : Value} {Q : Unit → Shared → Prop} (H : S C its s) (hL : env.locals = L) (hl : env.kindOf x = some .local) (hk : env.scope.kind = .function) (hv : er v = X) (hm : (L, NsI loc) ∈ its) (hP : Pu x (some X) loc loc') (hU : Up L (NsI loc) (NsI loc') its its')
    (h : ∀ s', S C its' s' → Q () s') : wpAny M A (storeName env x v) Q E s := by
  subst hL hv
  obtain ⟨o, ho, hN⟩ := H.get hU.mem
  obtain ⟨es, ep, hd, hsk, hnd, hp⟩ := id hN
  refine wpAny_storeName_local (m := fun x => nsFind es x) hl ⟨o, es, ep, ho, hd, hsk, fun _ => rfl⟩ (fun h' hn hs => h _ ?_) (by rw [hk]; rfl)
  obtain ⟨o', es', ep', ho', hd', hk', hf'⟩ := hn
  refine H.up hU hs ho' ⟨es', ep', hd', hk', by rw [hP.keys]; exact hnd, fun p hpm => ?_⟩
  rw [hf']
  rcases hP.other hnd p hpm with rfl | ⟨hm, hne⟩
  · dsimp only; rw [if_pos rfl]; rfl
  · dsimp only; rw [if_neg hne]; exact hp p hm

theorem rd_cell {X : Value} {c : Addr} {Q : Value → Shared → Prop} (H : S C its s) (hk : env.scope.kind = .function) (hl : env.kindOf x = some .cell) (hc : env.cells.lookup x = some c) (hm : (c, CellI (some X)) ∈ its) 
    (hd : (x == ("__debug__" : Str)) = false) (h : Ret X Q s) : wpAny M A (eval (.Name x pos) env) Q E s := by
  obtain ⟨o, ho, u, hu, e⟩ := H.get hm
  obtain ⟨v, rfl, e'⟩ := map_er e
  exact wpAny_Name (wpAny_loadName_cell hk hl hc ⟨o, ho, hu⟩ (h.use e')) hd
theorem rd_free {X : Value} {c : Addr} {Q : Value → Shared → Prop} (H : S C its s) (hk : env.scope.kind = .function) (hl : env.kindOf x = some .free) (hc : env.cells.lookup x = some c) (hm : (c, CellI (some X)) ∈ its) 
    (hd : (x == ("__debug__" : Str)) = false) (hcd : (x == ("__classdict__" : Str)) = false) (h : Ret X Q s) : wpAny M A (eval (.Name x pos) env) Q E s := by
  obtain ⟨o, ho, u, hu, e⟩ := H.get hm
  obtain ⟨v, rfl, e'⟩ := map_er e
  exact wpAny_Name (wpAny_loadName_free hk hl hc ⟨o, ho, hu⟩ (h.use e') hcd) hd
theorem st_cell {v X : Value} {c : Addr} {u : Option Value} {Q : Unit → Shared → Prop} (H : S C its s) (hk : env.scope.kind = .function) (hl : env.kindOf x = some .cell) (hc : env.cells.lookup x = some c) (hv : er v = X)
    (hU : Up c (CellI u) (CellI (some X)) its its') (h : ∀ s', S C its' s' → Q () s') : wpAny M A (storeName env x v) Q E s := by
  subst hv
  obtain ⟨o, ho, u', hu, e⟩ := H.get hU.mem
  refine wpAny_storeName_cell hk hl hc ⟨o, ho, hu⟩ fun h' ⟨o', ho', hd'⟩ hs => h _ (H.up hU hs ho' ⟨_, hd', rfl⟩)
end

structure Rm (A : Around) (d u : Nat) : Prop where
  hd : A.handled = none
  dep : A.depth + d < recursionLimit
  un : A.units + u < cLine
theorem Rm.deeper {A : Around} {d u : Nat} (h : Rm A (d + 1) (u + 3)) (env : Env) : Rm (A.deeper env) d u := ⟨h.hd, by have := h.dep; show A.depth + 1 + d < _; omega, by have := h.un; show A.units + 3 + u < _; omega⟩
theorem Rm.in1 {A : Around} {d u : Nat} (h : Rm A d (u + 1)) : Rm A.in1 d u := ⟨h.hd, h.dep, by have := h.un; show A.units + 1 + u < _; omega⟩
theorem Rm.le {A : Around} {d u d' u' : Nat} (h : Rm A d u) (h1 : d' ≤ d) (h2 : u' ≤ u) : Rm A d' u' := ⟨h.hd, by have := h.dep; omega, by have := h.un; omega⟩
theorem Rm.room {A : Around} {d u : Nat} (h : Rm A d u) : A.depth < recursionLimit := by have := h.dep; omega
theorem Rm.units {A : Around} {d u : Nat} (h : Rm A d u) : A.units < cLine := by have := h.un; omega

section
variable {prog : Program} {w : World} {A : Around} {E : Value → Shared → Prop} {K : Frag} {gl : List (Str × Value)} {C : Cx} {its its' : List Item} {s : Shared} {env : Env} {x : Str} {pos : Pos}
theorem rd_global {v : Value} {Q : Value → Shared → Prop} (H : S C its s) (hB : Bs prog w K gl C) (e : (x, v) ∈ gl) (hg : env.globals = mainGlobals) (hb : env.builtins = builtinsNs) (hk : env.scope.kind = .function) (hl : env.kindOf x = some .globalImplicit)
    (hd : (x == ("__debug__" : Str)) = false) (h : Q v s) : wpAny (model prog w) A (eval (.Name x pos) env) Q E s := by
  obtain ⟨mg, mb, hG, hM, hn⟩ := hB.names
  have g1 := Bs.ns H hG fun h => (hB.lo _ h).1 rfl
  have g2 := Bs.ns H hM fun h => (hB.lo _ h).2.1 rfl
  rcases hn _ e with h1 | ⟨h1, h2⟩
  · exact Calls.Name_function_global hk hl (Calls.loadGlobal_global (hg ▸ g1) h1 h) hd
  · exact Calls.Name_function_global hk hl (Calls.loadGlobal_builtin (hg ▸ g1) h1 (hb ▸ g2) h2 h) hd

theorem call_fn {fd : FuncData} {o : Obj} {body : List Stmt} {args : Args} {binds : List (Str × Value)} {loc : List (Str × Option Value)} {R : Result → Shared → Prop} {f : Addr}
    (H : S C its s) (hB : Bs prog w K gl C) (ho : s.heap.get? f = some o) (hd : o.data = .func fd) (hcd : s.heap.CodeRec fd.code fd.qualname) (hbody : fd.body = .stmts body) {dd uu : Nat} (hA : Rm A (dd + 1) (uu + 3))
    (hbind : BindsTo s fd args binds) (hcell : (fd.scope.names.all fun y => y.2 != .cell) = true) (hloc : (binds.all fun y => decide (fd.scope.names.lookup y.1 = some .local)) = true)
    (hnd : nodupB (loc.map (·.1)) = true) (hl : loc = loc.map fun p => (p.1, (binds.reverse.lookup p.1).map er))
    (h : ∀ L s', Rm (A.deeper (callEnv fd L f)) dd uu → S C ((L, NsI loc) :: its) s' → wpAny (model prog w) (A.deeper (callEnv fd L f)) (execs body (callEnv fd L f)) (fun fl s'' => R (.ok (.ret (match fl with | .ret v => v | _ => .none))) s'')
      (fun e s'' => wpAny (model prog w) (A.deeper (callEnv fd L f)) (leaving (callEnv fd L f) e) (fun _ s₃ => R (.error e) s₃) (fun e' s₃ => R (.error e') s₃) s'') s')
    (hco : fd.scope.isCoroutine = false := by rfl) (hgen : fd.scope.isGenerator = false := by rfl) (hk : fd.scope.kind = .function := by rfl) :
    codeAny (model prog w) A (.call (.ref f) args) R s := by
  refine codeAny_call_function hA.room ho hd hco hgen hbody hcd (hbind _ _ _ _ (wpAny_newFunctionEnv (noCell hcell) (locs hloc) (fun h₁ hns hsb => ⟨?_, codeAny_func (h s.heap.objs.size _ (hA.deeper _) ?_)⟩) hk))
  · obtain ⟨mc, hm, e⟩ := hB.L H
    have : s.heap.NoLimit := ⟨mc, hm, e⟩
    exact this.fresh _ hsb
  · obtain ⟨oL, es, ep, hoL, hdL, hsk, hf⟩ := id hns
    have H1 : S C ((s.heap.objs.size, fun _ => True) :: its) ⟨s.heap.push { cls := Value.type "frame", data := Data.dict #[] }, s.gens, s.drawn, s.toks, s.os⟩ := H.push (P := fun _ => True) trivial rfl
    refine S.up (d := s.drawn) (t := s.toks + binds.length) H1 (P := fun _ => True) (P' := NsI loc) .head hsb hoL ⟨es, ep, hdL, hsk, nodupB_iff hnd, fun p hp => ?_⟩
    rw [hf]
    rw [hl] at hp
    obtain ⟨q, _, rfl⟩ := List.mem_map.mp hp
    rfl
end
end Mc
namespace Mc
/-- a contract: what the tree asks of the ledger, what it gives, whatever else stands there -/
noncomputable def T3 (prog : Program) (w : World) (C : Cx) (d u : Nat) (P : List Item) (t : Sem Value) (R : Value → List Item → Prop) : Prop :=
  ∀ A rest s (Q E : Value → Shared → Prop), Rm A d u → S C (P ++ rest) s → (∀ v P' s', R v P' → S C (P' ++ rest) s' → Q v s') → wpAny (model prog w) A t Q E s

section
variable {prog : Program} {w : World} {A : Around} {E : Value → Shared → Prop} {C : Cx} {its its' : List Item} {s : Shared} {pos : Pos} {a : Addr} {vs : List Value}
theorem ListI.at {h : Heap} {o : Obj} (hL : ListI vs o) (ho : h.get? a = some o) : ∃ us n, IsL h a us n ∧ us.toList.map er = vs := by
  obtain ⟨us, n, rfl, e⟩ := hL
  exact ⟨us, n, ho, e⟩
theorem IsL.list {h : Heap} {us : Array Value} {n : Nat} (x : IsL h a us n) : h.IsList a us := ⟨_, x, rfl, n, rfl⟩
theorem len_er {us : Array Value} (e : us.toList.map er = vs) : us.size = vs.length := by rw [← e]; simp
theorem r_len_list {Q : Value → Shared → Prop} (H : S C its s) (hm : (a, ListI vs) ∈ its) (hz : vs.length ≤ 1048576) (h : ∀ t s', S C its s' → Q (.int (vs.length : Int) t) s') :
    wpAny (model prog w) A (call (.builtin "len") [.ref a]) Q E s := by
  obtain ⟨o, ho, hL⟩ := H.get hm
  obtain ⟨us, n, hi, e⟩ := hL.at ho
  have e' := len_er e
  refine Calls.call_len_list (IsL.list hi) (by rw [e']; omega) ?_
  rw [e']
  exact h _ _ H.tk
theorem m_list {name : Str} {id : String} {pl : Sem Bool} {Q : Value × List Value → Shared → Prop} (H : S C its s) (hm : (a, ListI vs) ∈ its) (hs : Slot "list" name id) (ht : typeOf (.builtin id) = pure (.type "method_descriptor"))
    (h : Q (.builtin id, [.ref a]) s) : wpAny (model prog w) A (getMethod (.ref a) name pl) Q E s := by
  obtain ⟨o, ho, us, n, rfl, _⟩ := H.get hm
  exact getMethod_builtin ⟨_, ho, rfl⟩ PySem.F.plainAttrs_list hs ht (fun b e => by cases e; exact ⟨_, ho, rfl⟩) h
end
end Mc

namespace Mc
section
variable {prog : Program} {w : World} {α : Type} [DecidableEq α] {knd : PySem.KeyKind prog w α} {kvs kvs' us : List (α × Value)} {k : α} {v X : Value}

noncomputable def ek (p : α × Value) : α × Value := (p.1, er p.2)
/-- a dict of the kind, its pairs in order, tokens of the values erased -/
noncomputable def DictI (knd : PySem.KeyKind prog w α) (kvs : List (α × Value)) (ep : Option Nat) (o : Obj) : Prop := ∃ us, Obj.IsDictOf knd o us ∧ us.map ek = kvs ∧ ∀ n, ep = some n → ∃ es, o.data = .dict es n

theorem valueAt_mem {us : List (α × Value)} (nd : (us.map (·.1)).Nodup) (h : (k, v) ∈ us) : valueAt us k = some v := by
  induction us with
  | nil => exact nomatch h
  | cons p r ih =>
    have nd := List.nodup_cons.mp nd
    unfold valueAt
    rw [List.find?_cons]
    refine (List.mem_cons.mp h).elim (fun e => ?_) fun h => ?_
    · rw [← e, decide_eq_true rfl]; rfl
    · have : p.1 ≠ k := fun e => nd.1 (by show p.1 ∈ _; rw [e]; exact List.mem_map_of_mem (f := (·.1)) h)
      rw [decide_eq_false this]
      exact ih nd.2 h
theorem mem_ek (h : (k, X) ∈ us.map ek) : ∃ v, (k, v) ∈ us ∧ er v = X := by
  obtain ⟨⟨k', v⟩, hm, e⟩ := List.mem_map.mp h
  cases e
  exact ⟨v, hm, rfl⟩
theorem ek_keys : (us.map ek).map (·.1) = us.map (·.1) := by rw [List.map_map]; rfl
theorem any_keys : us.any (fun kv => decide (kv.1 = k)) = (us.map (·.1)).contains k := by
  induction us with
  | nil => rfl
  | cons p r ih =>
    rw [List.any_cons, List.map_cons, List.contains_cons, ih]
    congr 1
    by_cases h : p.1 = k
    · subst h; simp
    · have : ¬ k = p.1 := fun e => h e.symm
      simp [h, this]
theorem stored_ek : (stored us k v).map ek = stored (us.map ek) k (er v) := by
  unfold stored
  rw [any_keys, any_keys, ek_keys]
  split
  · rw [List.map_map, List.map_map]
    refine List.map_congr_left fun p _ => ?_
    show ek (if p.1 = k then (p.1, v) else p) = if p.1 = k then (p.1, er v) else ek p
    split <;> rfl
  · rw [List.map_append]; rfl
theorem without_ek : (without us k).map ek = without (us.map ek) k := by
  unfold without
  rw [List.filter_map]
  rfl
theorem valueAt_ek : valueAt (us.map ek) k = (valueAt us k).map er := by
  unfold valueAt
  rw [List.find?_map]
  show Option.map (·.2) (Option.map ek (us.find? fun p => decide (p.1 = k))) = _
  cases us.find? fun p => decide (p.1 = k) <;> rfl

/-- one key's value is another -/
inductive Du (k : α) (v : Value) : List (α × Value) → List (α × Value) → Prop
  | head {u r} : Du k v ((k, u) :: r) ((k, v) :: r)
  | tail {p r r'} : Du k v r r' → Du k v (p :: r) (p :: r')
theorem Du.mem {l l' : List (α × Value)} (h : Du k v l l') : k ∈ l.map (·.1) := by
  induction h with
  | head => exact .head _
  | tail _ ih => exact .tail _ ih
theorem Du.stored_map {l l' : List (α × Value)} (h : Du k v l l') (nd : (l.map (·.1)).Nodup) : (l.map fun kv => if kv.1 = k then (kv.1, v) else kv) = l' := by
  induction h with
  | head =>
    rw [List.map_cons, if_pos rfl, map_store_of_not_mem _ k v (List.nodup_cons.mp nd).1]
  | tail h ih =>
    have nd := List.nodup_cons.mp nd
    rw [List.map_cons, if_neg (fun e => nd.1 (by show Prod.fst _ ∈ _; rw [e]; exact h.mem)), ih nd.2]
theorem Du.stored {l l' : List (α × Value)} (h : Du k v l l') (nd : (l.map (·.1)).Nodup) : PySem.stored l k v = l' := by
  unfold PySem.stored
  rw [any_keys, List.contains_iff_mem.mpr h.mem, if_pos rfl]
  exact h.stored_map nd
theorem stored_new (h : (kvs.map (·.1)).contains k = false) : PySem.stored kvs k v = kvs ++ [(k, v)] := by
  unfold PySem.stored
  rw [any_keys, h]; rfl

theorem stored_keys : (PySem.stored us k v).map (·.1) = if (us.map (·.1)).contains k then us.map (·.1) else us.map (·.1) ++ [k] := by
  unfold PySem.stored
  rw [any_keys]
  split
  · rw [List.map_map]
    refine List.map_congr_left fun p _ => ?_
    show (if p.1 = k then (p.1, v) else p).1 = p.1
    split <;> rfl
  · rw [List.map_append]; rfl
theorem nodup_stored (nd : (us.map (·.1)).Nodup) : ((PySem.stored us k v).map (·.1)).Nodup := by
  rw [stored_keys]
  split
  · exact nd
  · rename_i h
    refine List.nodup_append.mpr ⟨nd, by simp, fun a ha b hb e => ?_⟩
    rw [List.mem_singleton] at hb
    subst hb e
    exact h (List.contains_iff_mem.mpr ha)
theorem DictI.nodup {o : Obj} {ep : Option Nat} (h : DictI knd kvs ep o) : (kvs.map (·.1)).Nodup := by
  obtain ⟨us, ⟨_, _, _, _, _, _, nd⟩, rfl, _⟩ := h
  rw [ek_keys]; exact nd
theorem DictI.at {o : Obj} {ep : Option Nat} {h : Heap} {a : Addr} (hD : DictI knd kvs ep o) (ho : h.get? a = some o) : ∃ us, Heap.DictOf knd h a us ∧ us.map ek = kvs := by
  obtain ⟨us, h1, h2, _⟩ := hD
  exact ⟨us, Heap.dictOf_iff.mpr ⟨o, ho, h1⟩, h2⟩
theorem DictOf.mapOf {h : Heap} {a : Addr} (hD : Heap.DictOf knd h a us) : Heap.MapOf knd h a (valueAt us) := by
  obtain ⟨o, es, ep, ho, hx, hd, hk, hp, hn⟩ := hD
  refine ⟨o, es, ep, ho, hx, hd, hk, fun k => ?_⟩
  rw [← hp.find k]
  unfold findBy
  rw [← Array.find?_toList]
end
section
variable {prog : Program} {w : World} {A : Around} {E : Value → Shared → Prop} {α : Type} [DecidableEq α] {knd : PySem.KeyKind prog w α} {C : Cx} {its its' : List Item} {s : Shared} {a : Addr} {kvs kvs' : List (α × Value)} {ep : Option Nat} {k : α} {key v X : Value}
theorem S.upD {Q : Unit → Shared → Prop} {kvs₂ : List (α × Value)} (H : S C its s) (hU : Up a (DictI knd kvs ep) (DictI knd kvs₂ none) its its') {us : List (α × Value)} {h' : Heap} (hD : Heap.DictOf knd h' a us) (hs : Heap.SameBut a s.heap h') (e : us.map ek = kvs₂)
    {d : Drawn} {t : Nat} : S C its' ⟨h', s.gens, d, t, s.os⟩ := by
  obtain ⟨o, ho, hi⟩ := Heap.dictOf_iff.mp hD
  exact H.up hU hs ho ⟨us, hi, e, nofun⟩
/-- d[key] -/
theorem r_getItem {Q : Value → Shared → Prop} (H : S C its s) (hm : (a, DictI knd kvs ep) ∈ its) (hk : knd.is k key = true) (hv : valueAt kvs k = some X) (h : ∀ s', S C its s' → Ret X Q s') :
    wpAny (model prog w) A (getItem (.ref a) key) Q E s := by
  obtain ⟨o, ho, hD⟩ := H.get hm
  obtain ⟨us, h1, h2⟩ := hD.at ho
  subst h2
  rw [valueAt_ek] at hv
  obtain ⟨u, hu, e⟩ := map_er hv
  exact wpAny_getItem_of hk (DictOf.mapOf h1) hu ((h _ H.tk).use e)
/-- d[key] = v -/
theorem r_setItem {Q : Unit → Shared → Prop} (H : S C its s) (hk : knd.is k key = true) (hv : er v = X) (hU : Up a (DictI knd kvs ep) (DictI knd (stored kvs k X) none) its its') (hz : kvs.length ≤ 100000) (h : ∀ s', S C its' s' → Q () s') :
    wpAny (model prog w) A (setItem (.ref a) key v) Q E s := by
  subst hv
  obtain ⟨o, ho, hD⟩ := H.get hU.mem
  obtain ⟨us, h1, h2⟩ := hD.at ho
  subst h2
  refine wpAny_setItem_pairs hk h1 (fun h' hd hs => h _ (S.upD (Q := Q) H hU hd hs stored_ek)) ?_
  rw [List.length_map] at hz
  rw [sizeLine_eq]; omega
theorem r_setItem_m {Q : Unit → Shared → Prop} (H : S C its s) (hk : knd.is k key = true) (hv : er v = X) (hm : (a, DictI knd kvs ep) ∈ its) (hd : Du k X kvs kvs') (hU : Up a (DictI knd kvs ep) (DictI knd kvs' none) its its') (hz : kvs.length ≤ 100000) (h : ∀ s', S C its' s' → Q () s') :
    wpAny (model prog w) A (setItem (.ref a) key v) Q E s := by
  obtain ⟨o, ho, hD⟩ := H.get hU.mem
  rw [← hd.stored hD.nodup] at hU
  exact r_setItem H hk hv hU hz h
/-- key in d -/
theorem r_in {Q : Value → Shared → Prop} (H : S C its s) (hm : (a, DictI knd kvs ep) ∈ its) (hk : knd.is k key = true) (ha : (a == sysModules) = false) (h : ∀ s', S C its s' → Q (.bool (valueAt kvs k).isSome) s') :
    wpAny (model prog w) A (compareOp .In key (.ref a)) Q E s := by
  obtain ⟨o, ho, hD⟩ := H.get hm
  obtain ⟨us, h1, h2⟩ := hD.at ho
  subst h2
  refine wpAny_in_of hk ha (DictOf.mapOf h1) ?_
  have := h _ (H.tk (d := s.drawn) (t := s.toks + 1))
  rw [valueAt_ek, Option.isSome_map] at this
  exact this
theorem r_notIn {Q : Value → Shared → Prop} (H : S C its s) (hm : (a, DictI knd kvs ep) ∈ its) (hk : knd.is k key = true) (ha : (a == sysModules) = false) (h : ∀ s', S C its s' → Q (.bool (!(valueAt kvs k).isSome)) s') :
    wpAny (model prog w) A (compareOp .NotIn key (.ref a)) Q E s := by
  obtain ⟨o, ho, hD⟩ := H.get hm
  obtain ⟨us, h1, h2⟩ := hD.at ho
  subst h2
  refine wpAny_notIn_of hk ha (DictOf.mapOf h1) ?_
  have := h _ (H.tk (d := s.drawn) (t := s.toks + 1))
  rw [valueAt_ek, Option.isSome_map] at this
  exact this
theorem m_dict {name : Str} {id : String} {pl : Sem Bool} {Q : Value × List Value → Shared → Prop} (H : S C its s) (hm : (a, DictI knd kvs ep) ∈ its) (hs : Slot "dict" name id) (ht : typeOf (.builtin id) = pure (.type "method_descriptor"))
    (h : Q (.builtin id, [.ref a]) s) : wpAny (model prog w) A (getMethod (.ref a) name pl) Q E s := by
  obtain ⟨o, ho, us, ⟨es, ep', ⟨h1, h2, h3⟩, _⟩, _⟩ := H.get hm
  exact getMethod_builtin ⟨o, ho, h1⟩ PySem.F.plainAttrs_dict hs ht (fun b e => by cases e; exact ⟨_, ho, h2⟩) h
end
end Mc

namespace Mc
section
variable {prog : Program} {w : World} {A : Around} {E : Value → Shared → Prop} {C : Cx} {its its' : List Item} {s : Shared} {it : Addr}
theorem S.fresh_tb (H : S C its s) : s.heap.objs.size ∉ C.tb := fun h => by
  obtain ⟨o, e⟩ := H.tbs _ h
  exact absurd (Heap.lt_size e) (Nat.lt_irrefl _)

/-- an iterator: n turns, what it gives at each, what its object is -/
structure Nx (prog : Program) (w : World) (C : Cx) (it : Addr) (n : Nat) (elt : Nat → Value → Prop) (P : Nat → Obj → Prop) (need : List Item → Prop) : Prop where
  next : ∀ (A : Around) its s (Q : Option Value → Shared → Prop) (E : Value → Shared → Prop) i, A.handled = none → S C ((it, P i) :: its) s → need its → i < n →
    (∀ v s', elt i v → S C ((it, P (i + 1)) :: its) s' → Q (some v) s') → wpAny (model prog w) A (pyNext (.ref it)) Q E s
  stop : ∀ (A : Around) its s (Q : Option Value → Shared → Prop) (E : Value → Shared → Prop), A.handled = none → S C ((it, P n) :: its) s → need its →
    (∀ s', S C its s' → Q none s') → wpAny (model prog w) A (pyNext (.ref it)) Q E s

noncomputable def TurnEnd (C : Cx) (it : Addr) (P : Obj → Prop) (Inv : List Item → Prop) (R : Result → Shared → Prop) (f : Flow) (s : Shared) : Prop := match f with
  | .next => ∃ l, Inv l ∧ S C ((it, P) :: l) s
  | .cont => ∃ l, Inv l ∧ S C ((it, P) :: l) s
  | .brk => R (.ok .next) s
  | .ret v => R (.ok (.ret v)) s
theorem TurnEnd.next {P : Obj → Prop} {Inv : List Item → Prop} {R : Result → Shared → Prop} {l : List Item} (h : Inv l) (H : S C ((it, P) :: l) s) : TurnEnd C it P Inv R .next s := ⟨l, h, H⟩
theorem TurnEnd.cont {P : Obj → Prop} {Inv : List Item → Prop} {R : Result → Shared → Prop} {l : List Item} (h : Inv l) (H : S C ((it, P) :: l) s) : TurnEnd C it P Inv R .cont s := ⟨l, h, H⟩

theorem for_nx {env : Env} {n : Nat} {elt : Nat → Value → Prop} {P : Nat → Obj → Prop} {need : List Item → Prop} {R : Result → Shared → Prop} {x : Str} {p : Pos} {body orelse : List Stmt}
    (N : Nx prog w C it n elt P need) (hA : A.handled = none) (Inv : Nat → List Item → Prop) (hneed : ∀ i l, Inv i l → need l) (h0 : Inv 0 its) (H : S C ((it, P 0) :: its) s)
    (turn : ∀ i v l s₁ (E' : Value → Shared → Prop), i < n → elt i v → Inv i l → S C ((it, P (i + 1)) :: l) s₁ →
      wpAny (model prog w) A (storeName env x v) (fun _ s₂ => wpAny (model prog w) A (execs body env) (TurnEnd C it (P (i + 1)) (Inv (i + 1)) R) E' s₂) E' s₁)
    (done : ∀ l s₁ (E' : Value → Shared → Prop), Inv n l → S C l s₁ → wpAny (model prog w) A (execs orelse env) (fun f s₃ => R (.ok f) s₃) E' s₁) :
    codeAny (model prog w) A (.forLoop (.Name x p) (.ref it) body orelse env) R s := by
  refine codeAny_forLoop (fun m s => ∃ i l, m = n - i ∧ i ≤ n ∧ Inv i l ∧ S C ((it, P i) :: l) s) (fun m s₀ ⟨i, l, hm, hi, hI, Hs⟩ => ?_) n ⟨0, its, rfl, Nat.zero_le _, h0, H⟩
  by_cases hlt : i < n
  · refine N.next A l s₀ _ _ i hA Hs (hneed i l hI) hlt fun v s' he H' => ?_
    refine wpAny_assign_Name (wpAny_mono (turn i v l s' _ hlt he hI H') (fun _ s₂ h₂ => wpAny_mono h₂ (fun f s₃ h₃ => ?_) fun _ _ e => e) fun _ _ e => e)
    cases f with
    | next => obtain ⟨l', a, b⟩ := h₃; exact ⟨n - (i + 1), by omega, i + 1, l', rfl, hlt, a, b⟩
    | cont => obtain ⟨l', a, b⟩ := h₃; exact ⟨n - (i + 1), by omega, i + 1, l', rfl, hlt, a, b⟩
    | brk => exact h₃
    | ret v => exact h₃
  · have hin : i = n := by omega
    subst hin
    exact N.stop A l s₀ _ _ hA Hs (hneed i l hI) fun s' H' => done l s' _ hI H'

/-- the same where the turn's thing is a new tuple that is taken apart -/
structure NxT (prog : Program) (w : World) (C : Cx) (it : Addr) (n : Nat) (elt : Nat → List Value → Prop) (P : Nat → Obj → Prop) (need : List Item → Prop) : Prop where
  next : ∀ (A : Around) its s (Q E : Value → Shared → Prop) (Y : Shared → Prop) (elts : List PySem.Expr) (k : Nat) (pos : Pos) i, A.handled = none → S C ((it, P i) :: its) s → need its → i < n →
    (∀ v t us s', elt i us → v = .ref t → S C ((it, P (i + 1)) :: its) s' → s'.heap.IsTuple t us.toArray → Q v s') → 
    wpAny (model prog w) A (pyNext (.ref it)) (fun r s₁ => match r with | none => Y s₁ | some v => wpAny (model prog w) A (letOwnedTupleGo (.Tuple elts k pos) (.ref it) v) (fun _ s₂ => Q v s₂) E s₁) E s
  stop : ∀ (A : Around) its s (Q : Option Value → Shared → Prop) (E : Value → Shared → Prop), A.handled = none → S C ((it, P n) :: its) s → need its →
    (∀ s', S C its s' → Q none s') → wpAny (model prog w) A (pyNext (.ref it)) Q E s

theorem for_nxT {env : Env} {n : Nat} {elt : Nat → List Value → Prop} {P : Nat → Obj → Prop} {need : List Item → Prop} {R : Result → Shared → Prop} {elts : List PySem.Expr} {k : Nat} {p : Pos} {body orelse : List Stmt}
    (N : NxT prog w C it n elt P need) (hA : A.handled = none) (hlen : ∀ i us, elt i us → (assignEach elts env).length = us.length) (hst : List.findIdx? (fun x => x.1) (assignEach elts env) = none)
    (Inv : Nat → List Item → Prop) (hneed : ∀ i l, Inv i l → need l) (h0 : Inv 0 its) (H : S C ((it, P 0) :: its) s)
    (turn : ∀ i us l s₁ (E' : Value → Shared → Prop), i < n → elt i us → Inv i l → S C ((it, P (i + 1)) :: l) s₁ →
      wpAny (model prog w) A (assignInOrder (List.map (fun x => x.2) (assignEach elts env)) us) (fun _ s₂ => wpAny (model prog w) A (execs body env) (TurnEnd C it (P (i + 1)) (Inv (i + 1)) R) E' s₂) E' s₁)
    (done : ∀ l s₁ (E' : Value → Shared → Prop), Inv n l → S C l s₁ → wpAny (model prog w) A (execs orelse env) (fun f s₃ => R (.ok f) s₃) E' s₁) :
    codeAny (model prog w) A (.forLoop (.Tuple elts k p) (.ref it) body orelse env) R s := by
  refine codeAny_forLoop_any (fun m s => ∃ i l, m = n - i ∧ i ≤ n ∧ Inv i l ∧ S C ((it, P i) :: l) s) (fun m s₀ ⟨i, l, hm, hi, hI, Hs⟩ => ?_) n ⟨0, its, rfl, Nat.zero_le _, h0, H⟩
  by_cases hlt : i < n
  · refine N.next A l s₀ _ _ _ elts k p i hA Hs (hneed i l hI) hlt fun v t us s' he hv H' ht => ?_
    subst hv
    refine wpAny_assign_Tuple hA ht (by rw [hlen i us he]; simp) hst fun h' hx => ?_
    have hH : S C ((it, P (i + 1)) :: l) ⟨h', s'.gens, s'.drawn, s'.toks, s'.os⟩ := by
      have h1 := H'
      refine ⟨fun b o e q => hx b o (fun z => ?_) (h1.keep b o e q), fun q hq => ?_, h1.new, h1.nd, fun b hb => ?_, h1.gens, h1.os, h1.big, h1.n1⟩
      · subst z
        exact absurd (Heap.lt_size (h1.keep _ _ e q)) (Nat.lt_irrefl _)
      · obtain ⟨o, e, y⟩ := h1.own q hq
        exact ⟨o, hx _ _ (Nat.ne_of_lt (Heap.lt_size e)) e, y⟩
      · obtain ⟨o, e⟩ := h1.tbs b hb
        exact ⟨o, hx _ _ (Nat.ne_of_lt (Heap.lt_size e)) e⟩
    have q := turn i us l _ (notedBy (model prog w) A env fun e s' => R (.error e) s') hlt he hI hH
    rw [show us.toArray.toList = us from by simp]
    refine wpAny_mono q (fun _ s₂ h₂ => wpAny_mono h₂ (fun f s₃ h₃ => ?_) fun _ _ e => e) fun _ _ e => e
    cases f with
    | next => obtain ⟨l', a, b⟩ := h₃; exact ⟨n - (i + 1), by omega, i + 1, l', rfl, hlt, a, b⟩
    | cont => obtain ⟨l', a, b⟩ := h₃; exact ⟨n - (i + 1), by omega, i + 1, l', rfl, hlt, a, b⟩
    | brk => exact h₃
    | ret v => exact h₃
  · have hin : i = n := by omega
    subst hin
    exact N.stop A l s₀ _ _ hA Hs (hneed i l hI) fun s' H' => done l s' _ hI H'
end
end Mc
namespace Mc
section
variable {prog : Program} {w : World} {A : Around} {E : Value → Shared → Prop} {C : Cx} {its its' : List Item} {s : Shared} {it : Addr}
noncomputable def ListIt (l : Addr) (i : Nat) (o : Obj) : Prop := o.cls = .type "list_iterator" ∧ o.data = .fields #[.ref l, .int i 0]
theorem er_get {us : Array Value} {vs : List Value} (e : us.toList.map er = vs) (i : Nat) : vs[i]? = us[i]?.map er := by
  rw [← e, List.getElem?_map, Array.getElem?_toList]
theorem nx_list (l : Addr) (vs : List Value) (hit : it ∉ C.tb) : Nx prog w C it vs.length (fun i v => ∃ X, vs[i]? = some X ∧ er v = X) (ListIt l) (fun its => (l, ListI vs) ∈ its) := by
  refine ⟨fun A its s Q E i hA H hn hi h => ?_, fun A its s Q E hA H hn h => ?_⟩
  · obtain ⟨o, ho, hc, hd⟩ := H.get (.head _)
    obtain ⟨ol, hol, hL⟩ := H.get (.tail _ hn)
    obtain ⟨us, n, hi', e⟩ := hL.at hol
    have hx := er_get e i
    rw [List.getElem?_eq_getElem hi] at hx
    obtain ⟨v, hv, e2⟩ := map_er hx.symm
    refine wpAny_pyNext_list_item ⟨o, ho, hc, hd⟩ (IsL.list hi') hv fun h' ⟨o', ho', hc', hd'⟩ hs => ?_
    exact h v _ ⟨_, List.getElem?_eq_getElem hi, e2⟩ (H.up .head hs ho' ⟨hc', hd'⟩)
  · obtain ⟨o, ho, hc, hd⟩ := H.get (.head _)
    obtain ⟨ol, hol, hL⟩ := H.get (.tail _ hn)
    obtain ⟨us, n, hi', e⟩ := hL.at hol
    refine wpAny_pyNext_list_end hA ⟨o, ho, hc, hd⟩ (IsL.list hi') ?_ fun h' hx => h _ (H.extBut hx hit)
    have := len_er e
    rw [← this]; simp
theorem it_list {l : Addr} {vs : List Value} {Q : Value → Shared → Prop} (H : S C its s) (hm : (l, ListI vs) ∈ its) (h : ∀ it s', it ∉ C.tb → S C ((it, ListIt l 0) :: its) s' → Q (.ref it) s') : wpAny (model prog w) A (pyIter (.ref l)) Q E s := by
  obtain ⟨ol, hol, hL⟩ := H.get hm
  obtain ⟨us, n, hi', e⟩ := hL.at hol
  exact wpAny_pyIter_list (IsL.list hi') (h _ _ H.fresh_tb (H.push ⟨rfl, rfl⟩ rfl))
end
end Mc
namespace Mc
section
variable {prog : Program} {w : World} {A : Around} {E : Value → Shared → Prop} {C : Cx} {its its' : List Item} {s : Shared} {it : Addr}
/-- range(a, b) -/
noncomputable def RangeI (a b : Int) (o : Obj) : Prop := ∃ t u v, o = { cls := .type "range", data := .fields #[.int a t, .int b u, .int 1 v] }
noncomputable def RangeIt (a : Int) (n : Nat) (i : Nat) (o : Obj) : Prop := o = { cls := .type "range_iterator", data := .fields #[rawInt (a + i), rawInt ((n : Int) - i), rawInt 1] }
theorem r_range1 {n : Int} {t : Tok} {Q : Value → Shared → Prop} (H : S C its s) (h : ∀ r s', S C ((r, RangeI 0 n) :: its) s' → Q (.ref r) s') : wpAny (model prog w) A (call (.type "range") [.int n t]) Q E s :=
  call_range_1 (h _ _ (H.push ⟨_, _, _, rfl⟩ rfl))
theorem r_range2 {a n : Int} {t u : Tok} {Q : Value → Shared → Prop} (H : S C its s) (h : ∀ r s', S C ((r, RangeI a n) :: its) s' → Q (.ref r) s') : wpAny (model prog w) A (call (.type "range") [.int a t, .int n u]) Q E s :=
  call_range_2 (h _ _ (H.push ⟨_, _, _, rfl⟩ rfl))
theorem rangeSize1 (a b : Int) : Builtin.Range.rangeSize a b 1 = (((b - a).toNat : Nat) : Int) := by
  unfold Builtin.Range.rangeSize
  simp
  omega
theorem it_range {r : Addr} {a b : Int} {Q : Value → Shared → Prop} (H : S C its s) (hm : (r, RangeI a b) ∈ its) (hz : -1000000 ≤ a ∧ a ≤ 1000000 ∧ -1000000 ≤ b ∧ b ≤ 1000000)
    (h : ∀ it s', it ∉ C.tb → S C ((it, RangeIt a (b - a).toNat 0) :: its) s' → Q (.ref it) s') : wpAny (model prog w) A (pyIter (.ref r)) Q E s := by
  obtain ⟨o, ho, t, u, v, rfl⟩ := H.get hm
  refine wpAny_pyIter_range (a := a) (b := b) (c := 1) ho ?_ (h _ _ H.fresh_tb (H.push ?_ rfl))
  · have f : ∀ z : Int, -3000000 ≤ z ∧ z ≤ 3000000 → Builtin.Range.rangeFitsLong z = true := fun z hz => by
      simp only [Builtin.Range.rangeFitsLong, Bool.and_eq_true, decide_eq_true_eq]; omega
    simp only [Builtin.Range.small, Bool.and_eq_true, rangeSize1]
    refine ⟨⟨⟨⟨f _ (by omega), f _ (by omega)⟩, f _ (by omega)⟩, f _ (by omega)⟩, ?_⟩
    rw [if_pos (by decide), f _ (by omega), Bool.or_true]
  · show _ = _
    rw [rangeSize1]; simp
theorem nx_range (a : Int) (n : Nat) (hit : it ∉ C.tb) : Nx prog w C it n (fun i v => ∃ t, v = .int (a + i) t) (RangeIt a n) (fun _ => True) := by
  refine ⟨fun A its s Q E i hA H hn hi h => ?_, fun A its s Q E hA H hn h => ?_⟩
  · obtain ⟨o, ho, rfl⟩ := H.get (.head _)
    refine wpAny_pyNext_range_item ho (by omega) fun h' hI hs => h _ _ ⟨_, rfl⟩ (H.up .head hs hI ?_)
    have e1 : a + (i : Int) + 1 = a + ((i + 1 : Nat) : Int) := by omega
    have e2 : (n : Int) - (i : Int) - 1 = (n : Int) - ((i + 1 : Nat) : Int) := by omega
    rw [e1, e2]
    rfl
  · obtain ⟨o, ho, rfl⟩ := H.get (.head _)
    exact wpAny_pyNext_range_end hA ho (by omega) fun h' hx => h _ (H.extBut hx hit)
end
end Mc

namespace Mc
/-- an instance, its names in the dict at dx -/
noncomputable def InstI (D dx : Addr) (o : Obj) : Prop := o = instObj D dx
section
variable {prog : Program} {w : World} {A : Around} {E : Value → Shared → Prop} {K : Frag} {gl : List (Str × Value)} {C : Cx} {its its' : List Item} {s : Shared} {x D dx : Addr} {attrs attrs' : List (Str × Value)} {ep : Option Nat} {name : Str} {X : Value}
noncomputable abbrev sk (prog : Program) (w : World) := PySem.strKind prog w
noncomputable abbrev ik (prog : Program) (w : World) := PySem.intKind prog w

theorem isStrOf_isStr (k : Str) (v : Value) : Value.isStrOf k v = v.isStr k := by
  cases v <;> rfl
theorem find_pairs {es : List DictEntry} {us : List (Str × Value)} (hp : Pairs (sk prog w) es us) (k : Str) : (es.find? fun e => e.key.isStr k).map (·.val) = valueAt us k := by
  have : (fun e : DictEntry => e.key.isStr k) = fun e => (sk prog w).is k e.key := by funext e; exact (isStrOf_isStr k e.key).symm
  rw [this]; exact hp.find k
theorem noRef {es : Array DictEntry} (h : KeysOf (sk prog w) es) : (es.toList.any (·.refKey)) = false := by
  refine List.any_eq_false.mpr fun e he => ?_
  obtain ⟨k, hk, _⟩ := h e (by simpa using he)
  obtain ⟨t, ht⟩ := Value.isStrOf_shape hk
  unfold DictEntry.refKey
  rw [ht]
  exact Bool.false_ne_true
theorem getL_pairs {es : Array DictEntry} {us : List (Str × Value)} (hk : KeysOf (sk prog w) es) (hp : Pairs (sk prog w) es.toList us) : getL name es.toList = some (valueAt us name) := by
  unfold getL
  have := find_pairs hp name
  cases h : es.toList.find? fun e => e.key.isStr name with
  | some e => rw [h] at this; exact congrArg some this
  | none => rw [h] at this; dsimp only; rw [noRef hk, ← this]; rfl
theorem InstI.at (H : S C its s) (hm : (x, InstI D dx) ∈ its) (hd : (dx, DictI (sk prog w) attrs ep) ∈ its) : ∃ es n us, W.InstAt s.heap x (instObj D dx) D (some (dictOf es n)) ∧ s.heap.get? dx = some (dictOf es n) ∧ KeysOf (sk prog w) es.toArray ∧ Pairs (sk prog w) es us ∧ us.map ek = attrs ∧ (us.map (·.1)).Nodup := by
  obtain ⟨o, ho, rfl⟩ := H.get hm
  obtain ⟨od, hod, us, ⟨es, ep', ⟨h1, h2, h3⟩, h4, h5, h6, h7⟩, h8, _⟩ := H.get hd
  obtain ⟨oc, odi, oda, osl⟩ := od
  dsimp only at h1 h2 h3 h4
  subst h1 h2 h3 h4
  have e : ({ cls := Value.type "dict", dict := none, data := Data.dict es ep', slots := #[] } : Obj) = dictOf es.toList ep' := by simp [dictOf]
  rw [e] at hod
  exact ⟨es.toList, ep', us, ⟨ho, rfl, rfl, hod⟩, hod, by simpa using h5, h6, h8, h7⟩
/-- x.name, a name of the instance's own -/
theorem r_attr {attr : Option Value} {expr : Bool} {Q : Value → Shared → Prop} (H : S C its s) (hB : Bs prog w K gl C) (hm : (x, InstI D dx) ∈ its) (hd : (dx, DictI (sk prog w) attrs ep) ∈ its) (hv : (name, X) ∈ attrs)
    (hg : plainGet K D name = true) (hh : hasDictIn K D = true) (ha : findIn K (.ref D) name = some attr) (hn : noGet K attr = true) (hx : handedIn X = true) (h : ∀ s', S C its s' → Ret X Q s') :
    wpAny (model prog w) A (getAttr (.ref x) name expr) Q E s := by
  obtain ⟨es, n, us, I, hod, hk, hp, e, nd⟩ := InstI.at H hm hd
  subst e
  obtain ⟨v, hv', e'⟩ := mem_ek hv
  have hl : getL name es = some (some v) := by
    have := getL_pairs (name := name) hk (by simpa using hp)
    rw [valueAt_mem nd hv'] at this
    simpa using this
  refine get_value (hB.k H) I (plainGet_of hg).1 (findObj_own hh ha hn hl) ?_ ((h _ H.tk).use e')
  subst e'
  cases v <;> first | rfl | exact hx
/-- x.name, a property -/
theorem r_prop {expr : Bool} {Q : Value → Shared → Prop} {p fget : Addr} {rest : List Value} (H : S C its s) (hB : Bs prog w K gl C) (hm : (x, InstI D dx) ∈ its) (hd : (dx, DictI (sk prog w) attrs ep) ∈ its)
    (hg : plainGet K D name = true) (hh : hasDictIn K D = true) (ha : findIn K (.ref D) name = some (some (.ref p))) (hn : specialIn K (.ref p) "__get__" = some (some (.builtin "property.__get__"))) (ht : takesIn K (.ref p) = some true)
    (hp : recIn K p "property" = some (.ref fget :: rest))
    (h : ∀ s' tk, S C its s' → codeAny (model prog w) A.in1 (.call (.ref fget) ⟨[.ref x], []⟩) (fun r s' => match r with | .ok (.ret v) => wpAny (model prog w) A (handedOut v) Q E s' | .ok _ => False | .error e => wpAny (model prog w) A (noteIf true (.ref x) (.str name tk) e) (fun _ s'' => E e s'') E s') s') :
    wpAny (model prog w) A (getAttr (.ref x) name expr) Q E s := by
  obtain ⟨es, n, us, I, hod, hk, hps, e, nd⟩ := InstI.at H hm hd
  exact get_bind (hB.k H) I (plainGet_of hg).1 (findObj_data (by obtain ⟨cd, hc, _⟩ := any_some hh; rw [hc]; rfl) ha hn ht) (plainGet_of hg).2 (wpAny_call (prop_get (s := { s with toks := s.toks + 1 }) (hB.k H.tk) hp (h _ _ H.tk)))
/-- x.name as a method's place -/
theorem r_meth {pl : Sem Bool} {Q : Value × List Value → Shared → Prop} {f : Addr} (H : S C its s) (hB : Bs prog w K gl C) (hm : (x, InstI D dx) ∈ its) (hd : (dx, DictI (sk prog w) attrs ep) ∈ its)
    (hg : plainGet K D name = true) (hf : findIn K (.ref D) name = some (some (.ref f))) (ht : isFn K (.ref f) = true) (hno : (attrs.map (·.1)).contains name = false) (h : Q (.ref f, [.ref x]) s) :
    wpAny (model prog w) A (getMethod (.ref x) name pl) Q E s := by
  obtain ⟨es, n, us, I, hod, hk, hp, e, nd⟩ := InstI.at H hm hd
  subst e
  have hl : getL name es = some none := by
    have := getL_pairs (name := name) hk (by simpa using hp)
    have z : valueAt us name = none := by
      cases q : valueAt us name with
      | none => rfl
      | some v =>
        unfold valueAt at q
        obtain ⟨p, hp1, hp2⟩ := Option.map_eq_some_iff.mp q
        have := List.mem_of_find?_eq_some hp1
        have h2 := List.find?_some hp1
        rw [ek_keys] at hno
        have : name ∈ us.map (·.1) := by
          rw [← of_decide_eq_true h2]; exact List.mem_map_of_mem this
        rw [List.contains_iff_mem.mpr this] at hno
        cases hno
    rw [z] at this
    simpa using this
  exact method_fn (hB.k H) I (plainGet_of hg).1 (plainGet_of hg).2 hf (beq_iff_eq.mp ht) (by show (lookIn name (dictOf es n)).map _ = _; rw [lookIn_dict, hl]; rfl) h

theorem putL_pairs {h : Int} {tk : Tok} {v : Value} : ∀ {es : List DictEntry} {us : List (Str × Value)}, Pairs (sk prog w) es us → (us.map (·.1)).Nodup → Pairs (sk prog w) (putL name h (.str name tk) v es) (stored us name v)
  | _, _, .nil, _ => by
    unfold putL stored
    exact .cons (by show Value.isStrOf name (.str name tk) = true; simp [Value.isStrOf]) rfl .nil
  | _, _, .cons (e := e) (kv := kv) (es := es) (kvs := kvs) h1 h2 h3, nd => by
    rw [List.map_cons, List.nodup_cons] at nd
    unfold putL
    have hk : e.key.isStr name = decide (kv.1 = name) := by
      rw [← isStrOf_isStr]
      have := PySem.KeyKind.is_eq_decide (knd := sk prog w) h1 name
      show (sk prog w).is name e.key = _
      rw [this]
      by_cases q : name = kv.1
      · simp [q]
      · have : ¬ kv.1 = name := fun z => q z.symm
        simp [q, this]
    rw [hk]
    by_cases q : kv.1 = name
    · rw [if_pos (by simpa using q)]
      have e1 : stored (kv :: kvs) name v = (kv.1, v) :: kvs := by
        unfold stored
        rw [List.any_cons, decide_eq_true q, Bool.true_or, if_pos rfl, List.map_cons, if_pos q, map_store_of_not_mem kvs name v (q ▸ nd.1)]
      rw [e1]
      exact .cons h1 rfl h3
    · rw [if_neg (by simpa using q)]
      have e1 : stored (kv :: kvs) name v = kv :: stored kvs name v := by
        unfold stored
        rw [List.any_cons, decide_eq_false q, Bool.false_or, List.map_cons, if_neg q]
        split <;> rfl
      rw [e1]
      exact .cons h1 h2 (putL_pairs h3 nd.2)
theorem putL_all {h : Int} {tk : Tok} {v : Value} (hh : h = (sk prog w).hash name) {es : List DictEntry} (hk : ∀ e ∈ es, ∃ k, (sk prog w).is k e.key = true ∧ e.hash = (sk prog w).hash k) :
    ∀ e ∈ putL name h (.str name tk) v es, ∃ k, (sk prog w).is k e.key = true ∧ e.hash = (sk prog w).hash k := by
  induction es with
  | nil =>
    intro e he
    obtain rfl : e = _ := List.mem_singleton.mp he
    exact ⟨name, by show Value.isStrOf name (.str name tk) = true; simp [Value.isStrOf], hh⟩
  | cons d r ih =>
    intro e he
    unfold putL at he
    split at he
    · exact (List.mem_cons.mp he).elim (fun q => q ▸ hk d (.head _)) fun he => hk e (.tail _ he)
    · exact (List.mem_cons.mp he).elim (fun q => q ▸ hk d (.head _)) fun he => ih (fun e he => hk e (.tail _ he)) e he
theorem putL_keys {h : Int} {tk : Tok} {v : Value} (hh : h = (sk prog w).hash name) {es : List DictEntry} (hk : KeysOf (sk prog w) es.toArray) : KeysOf (sk prog w) (putL name h (.str name tk) v es).toArray := fun e he =>
  putL_all hh (fun e he => hk e (by simpa using he)) e (by simpa using he)
theorem keyHash_is : PyData.keyHash w.params name = (sk prog w).hash name := rfl

/-- x.name = v -/
theorem r_setattr {v : Value} {Q : Unit → Shared → Prop} (H : S C its s) (hB : Bs prog w K gl C) (hm : (x, InstI D dx) ∈ its) (hv : er v = X) (hU : Up dx (DictI (sk prog w) attrs ep) (DictI (sk prog w) (stored attrs name X) none) its its')
    (hs : findIn K (.ref D) "__setattr__" = some (some (.builtin "object.__setattr__"))) (hp : plainOver K D = true) (ht : takerIn K D name = some none) (hh : hasDictIn K D = true) (hz : attrs.length ≤ 900)
    (h : ∀ s', S C its' s' → Q () s') : wpAny (model prog w) A (setAttr (.ref x) name v) Q E s := by
  subst hv
  obtain ⟨es, n, us, I, hod, hk, hps, e, nd⟩ := InstI.at H hm hU.mem
  subst e
  refine set_plain (hB.k H) I hs ?_
  obtain ⟨s0, H0, rfl⟩ : ∃ s0, S C its s0 ∧ s0 = (⟨s.heap, s.gens, s.drawn, s.toks + 1, s.os⟩ : Shared) := ⟨_, H.tk, rfl⟩
  refine osa_open (hB.k H0) I hp ht fun b => ?_
  obtain ⟨cd, hc, hd'⟩ := any_some hh
  obtain ⟨hx, hcl, hn, -⟩ := id I
  refine wpAny_bind (wpAny_pure (wpAny_bind (wpAny_bind (wpAny_loadPart hx (wpAny_bind ((looks_clsIn (hB.k H0) hc).here ?_))))))
  rw [hd']
  refine wpAny_pure (a := some dx) (wpAny_bind (wpAny_pure (wpAny_bind ?_)))
  unfold nsSet
  refine wpAny_bind (wpAny_bind (wpAny_askSetting (wpAny_pure (wpAny_bind (wpAny_mkText (wpAny_bind (wpAny_loadPart hod ?_)))))))
  have c : (!es.toArray.any (·.key.isStr name) && es.toArray.any (·.refKey)) = false := by
    have : es.toArray.any (·.refKey) = false := by rw [← Array.any_toList]; exact noRef hk
    rw [this, Bool.and_false]
  dsimp only
  rw [aRefKeyMayBeTheName_at, c]
  refine wpAny_updatePart hod ?_
  have ge := Heap.get?_update_self (Obj.putName name (PyData.keyHash w.params name) (.str name (s.toks + 1)) v) hod (by rw [putName_dict]; rfl)
  rw [putName_dict] at ge
  have el : es.length = us.length := hps.length
  rw [List.length_map] at hz
  refine wpAny_bind (wpAny_lookBehind ge (pastItsLine_dict ?_) ?_)
  · have l2 := (putL_pairs (name := name) (h := PyData.keyHash w.params name) (tk := s.toks + 1) (v := v) hps nd).length
    have l3 : (stored us name v).length ≤ us.length + 1 := by
      unfold stored; split <;> simp
    rw [List.size_toArray, l2, sizeLine_eq]; omega
  · refine wpAny_pure (h _ ?_)
    have hsb : Heap.SameBut dx s.heap (s.heap.update dx (Obj.putName name (PyData.keyHash w.params name) (.str name (s.toks + 1)) v)) := Heap.SameBut.update ..
    refine H.up hU hsb ge ⟨stored us name v, ⟨_, _, ⟨rfl, rfl, rfl⟩, rfl, ?_, ?_, ?_⟩, stored_ek, nofun⟩
    · exact putL_keys keyHash_is hk
    · simpa using putL_pairs hps nd
    · exact nodup_stored nd
end
end Mc

namespace Mc
section
variable {prog : Program} {w : World} {A : Around} {E : Value → Shared → Prop} {K : Frag} {gl : List (Str × Value)} {C : Cx} {its its' : List Item} {s : Shared} {L : Addr} {loc : List (Str × Option Value)}

/-- every object of the heap but the one at L -/
noncomputable def allNews (h : Heap) (L : Addr) : List (Addr × Obj) := (List.range h.objs.size).filterMap fun a => if a = L then none else (h.get? a).map (a, ·)
theorem mem_allNews {h : Heap} {L : Addr} {p : Addr × Obj} : p ∈ allNews h L ↔ h.get? p.1 = some p.2 ∧ p.1 ≠ L := by
  unfold allNews
  rw [List.mem_filterMap]
  constructor
  · rintro ⟨a, _, h2⟩
    by_cases hL : a = L
    · rw [if_pos hL] at h2; cases h2
    · rw [if_neg hL] at h2
      obtain ⟨o, ho, rfl⟩ := Option.map_eq_some_iff.mp h2
      exact ⟨ho, hL⟩
  · rintro ⟨h1, h2⟩
    exact ⟨p.1, List.mem_range.mpr (Heap.lt_size h1), by rw [if_neg h2, h1]; rfl⟩

/-- the ledger as the library's own facts, and back -/
theorem S.fn (H : S C its s) (hm : (L, NsI loc) ∈ its) : ∃ m news, Fr {} L s.heap m ∧ News {} L s.heap news ∧ (∀ p ∈ its, p.1 ≠ L → ∃ o, (p.1, o) ∈ news ∧ p.2 o) ∧ (∀ a o, s.heap.get? a = some o → a ≠ L → (a, o) ∈ news) ∧
    (∀ h' d t, Fr {} L h' m → News {} L h' news → S C its ⟨h', s.gens, d, t, s.os⟩) ∧
    (∀ h' d t B o (P : Obj → Prop), Fr {} L h' m → News {} L h' ((B, o) :: news) → P o → (∀ q ∈ news, q.1 < B) → S C ((B, P) :: its) ⟨h', s.gens, d, t, s.os⟩) := by
  suffices main : ∃ m news, Fr {} L s.heap m ∧ News {} L s.heap news ∧ (∀ p ∈ its, p.1 ≠ L → ∃ o, (p.1, o) ∈ news ∧ p.2 o) ∧ (∀ a o, s.heap.get? a = some o → a ≠ L → (a, o) ∈ news) ∧
    (∀ h' d t, Fr {} L h' m → News {} L h' news → S C its ⟨h', s.gens, d, t, s.os⟩) by
    obtain ⟨m, news, F, N, h1, h2, h3⟩ := main
    refine ⟨m, news, F, N, h1, h2, h3, fun h' d t B o P F' N' hP hB => ?_⟩
    have H' := h3 h' d t F' fun p hp => N' p (.tail _ hp)
    have hne : ∀ a o', s.heap.get? a = some o' → a ≠ B := fun a o' e z => by
      subst z
      by_cases q : a = L
      · exact absurd q (N' _ (.head _)).2.1
      · exact absurd (hB _ (h2 _ _ e q)) (Nat.lt_irrefl _)
    refine ⟨H'.keep, fun p hp => ?_, fun p hp => ?_, ?_, H'.tbs, H'.gens, H'.os, H'.big, fun hm' => ?_⟩
    · rcases List.mem_cons.mp hp with rfl | hp
      · exact ⟨o, (N' _ (.head _)).1, hP⟩
      · exact H'.own p hp
    · rcases List.mem_cons.mp hp with rfl | hp
      · by_cases q : B ∈ C.tb
        · exact .inr q
        · refine .inl ?_
          cases z : C.B.get? B with
          | none => rfl
          | some o' => exact absurd rfl (hne _ _ (H.keep _ _ z q))
      · exact H'.new p hp
    · rw [List.map_cons]
      refine List.nodup_cons.mpr ⟨fun hm' => ?_, H'.nd⟩
      obtain ⟨p, hp, e⟩ := List.mem_map.mp hm'
      obtain ⟨o', e', _⟩ := H.own p hp
      exact hne _ _ e' e
    · rcases List.mem_cons.mp hm' with e | hm'
      · obtain ⟨b, ob, b1, b2, b3⟩ := H.big
        have b4 : b ≠ L := fun z => by
          subst z
          rcases H.new _ hm with q | q
          · rw [q] at b2; cases b2
          · exact b3 q
        have b5 := hB _ (h2 _ _ (H.keep b ob b2 b3) b4)
        exact Nat.lt_asymm b1 (Nat.lt_of_lt_of_eq b5 e.symm)
      · exact H'.n1 hm'
  obtain ⟨o, ho, hN⟩ := H.get hm
  obtain ⟨es, ep, hd, hsk, hnd, hloc⟩ := id hN
  refine ⟨fun x => nsFind es x, allNews s.heap L, ⟨⟨o, es, ep, ho, hd, hsk, fun _ => rfl⟩, fun b o e => ?_, Nat.zero_le _⟩, fun p hp => ⟨(mem_allNews.mp hp).1, (mem_allNews.mp hp).2, ?_⟩, fun p hp hL => ?_, fun a o e hne => mem_allNews.mpr ⟨e, hne⟩, fun h' d t F N => ?_⟩
  · simp [Heap.get?] at e
  · simp [Heap.get?]
  · obtain ⟨o, e, hP⟩ := H.own p hp
    exact ⟨o, mem_allNews.mpr ⟨e, hL⟩, hP⟩
  · have hL := H.new _ hm
    have kp : ∀ a o, s.heap.get? a = some o → a ≠ L → h'.get? a = some o := fun a o e hne => (N (a, o) (mem_allNews.mpr ⟨e, hne⟩)).1
    refine ⟨fun b o e hb => kp b o (H.keep b o e hb) fun z => ?_, fun p hp => ?_, H.new, H.nd, fun a ha => ?_, H.gens, H.os, H.big, H.n1⟩
    · subst z
      rcases hL with hL | hL
      · rw [hL] at e; cases e
      · exact hb hL
    · by_cases hz : p.1 = L
      · obtain ⟨o', es', ep', ho', hd', hk', hf'⟩ := F.ns
        have : p = (L, NsI loc) := H.ne hp hm hz
        subst this
        exact ⟨o', ho', es', ep', hd', hk', hnd, fun q hq => by rw [hf']; exact hloc q hq⟩
      · obtain ⟨o, e, hP⟩ := H.own p hp
        exact ⟨o, kp _ _ e hz, hP⟩
    · obtain ⟨o, e⟩ := H.tbs a ha
      by_cases hz : a = L
      · subst hz
        obtain ⟨o', _, _, ho', _⟩ := F.ns
        exact ⟨o', ho'⟩
      · exact ⟨o, kp _ _ e hz⟩

/-- two places of the ledger -/
inductive Ne2 (a b : Addr) : List Item → Prop
  | l {P P' r} : (b, P') ∈ r → Ne2 a b ((a, P) :: r)
  | r {P P' r} : (a, P') ∈ r → Ne2 a b ((b, P) :: r)
  | tail {p r} : Ne2 a b r → Ne2 a b (p :: r)
noncomputable def ViewI (T : String) (d : Addr) (o : Obj) : Prop := o = { cls := .type T, data := .fields #[.ref d] }
section
variable {α : Type} [DecidableEq α] {knd : PySem.KeyKind prog w α} {kvs : List (α × Value)} {d v : Addr} {ep : Option Nat}
end
theorem ints_of {vs : List Value} {us : List (Int × Value)} (hl : vs.length = us.length) (h : ∀ (j : Nat) (v : Value), vs[j]? = some v → ∃ k x, us[j]? = some (k, x) ∧ (ik prog w).is k v = true) : IntsAre vs (us.map (·.1)) := by
  induction vs generalizing us with
  | nil => rw [List.length_eq_zero_iff.mp hl.symm]; exact .nil
  | cons v vs ih =>
    cases us with
    | nil => exact nomatch hl
    | cons p us =>
      obtain ⟨k', x', e, hk⟩ := h 0 v rfl
      obtain ⟨t, rfl⟩ := Value.isInt_shape hk
      obtain rfl : p = (k', x') := Option.some.inj e
      exact .cons _ _ (ih (Nat.succ.inj hl) fun j u hu => h (j + 1) u hu)
theorem ints_er {vs : List Value} {ns : List Int} (h : IntsAre vs ns) : vs.map er = ns.map fun n => .int n 0 := by
  induction h with
  | nil => rfl
  | cons n t _ ih => rw [List.map_cons, List.map_cons, ih]; rfl
theorem r_sorted_keys {kvs : List (Int × Value)} {d v : Addr} {ep : Option Nat} {Q : Value → Shared → Prop} (H : S C its s) (hA : A.handled = none) (hL : (L, NsI loc) ∈ its) (hv : (v, ViewI "dict_keys" d) ∈ its) (hd : (d, DictI (ik prog w) kvs ep) ∈ its) (hz : kvs.length < 64)
    (h : ∀ (B : Addr) (ns : List Int) s', ns.Perm (kvs.map (·.1)) → ns.Pairwise (· ≤ ·) → S C ((B, ListI (ns.map fun n => .int n 0)) :: its) s' → Q (.ref B) s') :
    wpAny (model prog w) A (call (.builtin "sorted") [.ref v]) Q E s := by
  obtain ⟨m, news, F, N, h1, h2, h3, h4⟩ := H.fn hL
  obtain ⟨od, hod, hD⟩ := H.get hd
  obtain ⟨ov, hov, rfl⟩ := H.get hv
  obtain ⟨us, hD', e⟩ := hD.at hod
  obtain ⟨ep', hat⟩ := hD'.dictAt
  have hl : us.length = kvs.length := by rw [← e]; simp
  refine kdu_sorted (kdl_keys (knd := ik prog w) (kvs := us) (ep := ep')) hA F N ⟨⟨_, hov, rfl, rfl⟩, hat⟩ (by rw [sizeLine_eq]; omega) fun D h' tk vs F' N' hlt hl' hP => ?_
  have hI : IntsAre vs (us.map (·.1)) := ints_of hl' hP
  refine ksk_lsort F' N' (fun o => Upd.head fun p hp => Nat.ne_of_lt (hlt p hp)) (by simp) hI (by rw [List.length_map]; omega) fun vs' ns' c h'' F'' N'' hI' _ hp hs _ => ?_
  refine h D ns' _ (hp.trans (List.Perm.of_eq (by rw [← e, ek_keys]))) hs (h4 _ _ _ _ _ _ F'' N'' ⟨_, _, rfl, by simpa using ints_er hI'⟩ hlt)
end
end Mc
namespace Mc
section
variable {prog : Program} {w : World} {A : Around} {E : Value → Shared → Prop} {K : Frag} {gl : List (Str × Value)} {C : Cx} {its its' : List Item} {s : Shared} {L : Addr} {loc : List (Str × Option Value)}
theorem strIs (x : Str) (t : Tok) : (sk prog w).is x (.str x t) = true := by show Value.isStrOf x (.str x t) = true; simp [Value.isStrOf]
theorem intIs (i : Int) (t : Tok) : (ik prog w).is i (.int i t) = true := by show Value.isInt i (.int i t) = true; simp [Value.isInt]
theorem Ret.cases {X : Value} {Q : Value → Shared → Prop} (h : ∀ v, er v = er X → Q v s) : Ret X Q s := by
  cases X <;> first | exact h _ rfl | exact fun t => h _ rfl
variable {α : Type} [DecidableEq α] {knd : PySem.KeyKind prog w α} {kvs : List (α × Value)} {d v : Addr} {ep : Option Nat} {k : α} {key dflt X : Value} {t : Tok}
/-- d.pop(key) of a key that is there -/
theorem r_pop {Q : Value → Shared → Prop} {rest : List Value} (H : S C its s) (hk : knd.is k key = true) (hp : (keyPart key).isSome = true) (hr : rest = [] ∨ ∃ dflt, rest = [dflt]) (ha : argsOk "dict.pop" ⟨.ref d :: key :: rest, []⟩)
    (hU : Up d (DictI knd kvs ep) (DictI knd (without kvs k) none) its its') (hv : valueAt kvs k = some X) (hz : kvs.length ≤ 100000) (h : ∀ s', S C its' s' → Ret X Q s') :
    wpAny (model prog w) A (call (.builtin "dict.pop") (.ref d :: key :: rest)) Q E s := by
  obtain ⟨o, ho, hD⟩ := H.get hU.mem
  obtain ⟨us, h1, h2⟩ := hD.at ho
  subst h2
  rw [valueAt_ek] at hv
  obtain ⟨u, hu, e⟩ := map_er hv
  have hlen : us.length ≤ sizeLine := by rw [List.length_map] at hz; rw [sizeLine_eq]; omega
  exact call_meetsIn PySem.F.slot_dict_pop h1.typeIs PySem.F.entry_dict_pop ha (meets_dict_pop_there knd d hk rest hr hp) ⟨us, u, h1, hlen, hu, fun h' hd hs => (h _ (S.upD (Q := fun _ _ => True) H hU hd hs without_ek)).use e⟩
/-- d.pop(key, dflt) of a key that is not there -/
theorem r_pop_none {Q : Value → Shared → Prop} (H : S C its s) (hk : knd.is k key = true) (hp : (keyPart key).isSome = true) (hS : (d == sysModules) = false)
    (hm : (d, DictI knd kvs ep) ∈ its) (hv : valueAt kvs k = none) (h : ∀ s', S C its s' → Q dflt s') :
    wpAny (model prog w) A (call (.builtin "dict.pop") [.ref d, key, dflt]) Q E s := by
  obtain ⟨o, ho, hD⟩ := H.get hm
  obtain ⟨us, h1, h2⟩ := hD.at ho
  subst h2
  rw [valueAt_ek, Option.map_eq_none_iff] at hv
  exact call_meetsIn PySem.F.slot_dict_pop h1.typeIs PySem.F.entry_dict_pop (PySem.F.args_dict_pop_3 _ _ _) (meets_dict_pop_default knd d hk hS hp dflt) ⟨us, h1, hv, h _ H.tk⟩
/-- d.get(key, dflt) -/
theorem r_get2 {Q : Value → Shared → Prop} (H : S C its s) (hk : knd.is k key = true) (hS : (d == sysModules) = false)
    (hm : (d, DictI knd kvs ep) ∈ its) (h : ∀ s', S C its s' → match valueAt kvs k with | some X => Ret X Q s' | none => Q dflt s') :
    wpAny (model prog w) A (call (.builtin "dict.get") [.ref d, key, dflt]) Q E s := by
  obtain ⟨o, ho, hD⟩ := H.get hm
  obtain ⟨us, h1, h2⟩ := hD.at ho
  subst h2
  refine call_meetsIn PySem.F.slot_dict_get h1.typeIs PySem.F.entry_dict_get (PySem.F.args_dict_get_3 _ _ _) (meets_dict_get_default knd d hk hS dflt) ⟨_, DictOf.mapOf h1, ?_⟩
  have := h _ (H.tk (d := s.drawn) (t := s.toks + 1))
  rw [valueAt_ek] at this
  cases q : valueAt us k with
  | none => rw [q] at this; exact this
  | some u => rw [q] at this; exact this.use rfl
theorem r_get1 {Q : Value → Shared → Prop} (H : S C its s) (hk : knd.is k key = true) (hS : (d == sysModules) = false)
    (hm : (d, DictI knd kvs ep) ∈ its) (h : ∀ s', S C its s' → Ret ((valueAt kvs k).getD .none) Q s') :
    wpAny (model prog w) A (call (.builtin "dict.get") [.ref d, key]) Q E s := by
  obtain ⟨o, ho, hD⟩ := H.get hm
  obtain ⟨us, h1, h2⟩ := hD.at ho
  subst h2
  refine call_meetsIn PySem.F.slot_dict_get h1.typeIs PySem.F.entry_dict_get (PySem.F.args_dict_get_2 _ _) (meets_dict_get knd d hk hS) ⟨_, DictOf.mapOf h1, ?_⟩
  have := h _ (H.tk (d := s.drawn) (t := s.toks + 1))
  rw [valueAt_ek] at this
  cases q : valueAt us k with
  | none => rw [q] at this; exact this
  | some u => rw [q] at this; exact this.use rfl
/-- del d[key] of a key that is there -/
theorem r_delItem {Q : Unit → Shared → Prop} (H : S C its s) (hk : knd.is k key = true) (hp : (keyPart key).isSome = true)
    (hU : Up d (DictI knd kvs ep) (DictI knd (without kvs k) none) its its') (hv : (valueAt kvs k).isSome = true) (hz : kvs.length ≤ 100000) (h : ∀ s', S C its' s' → Q () s') :
    wpAny (model prog w) A (delItem (.ref d) key) Q E s := by
  obtain ⟨o, ho, hD⟩ := H.get hU.mem
  obtain ⟨us, h1, h2⟩ := hD.at ho
  subst h2
  have hlen : us.length ≤ sizeLine := by rw [List.length_map] at hz; rw [sizeLine_eq]; omega
  refine wpAny_delItem_slot h1.typeIs rfl PySem.F.slot_dict_delitem ?_
  refine call_meetsIn PySem.F.slot_dict_delitem h1.typeIs PySem.F.entry_dict_delitem (PySem.F.args_dict_delitem_2 _ _) (meets_dict_delitem_pairs knd d hk) ⟨us, h1, hlen, by rw [valueAt_ek, Option.isSome_map] at hv; exact hv, fun h' hd hs => h _ (S.upD (Q := fun _ _ => True) H hU hd hs without_ek)⟩
end
end Mc

namespace Mc
section
variable {prog : Program} {w : World} {A : Around} {E : Value → Shared → Prop} {K : Frag} {gl : List (Str × Value)} {C : Cx} {its its' : List Item} {s : Shared} {L a : Addr} {loc : List (Str × Option Value)} {value slice : PySem.Expr} {Q : Value → Shared → Prop} {vs : List Value} {X v : Value} {i : Int} {t : Tok}
section
variable {α : Type} [DecidableEq α] {knd : PySem.KeyKind prog w α} {kvs : List (α × Value)} {ep : Option Nat} {k : α} {key : Value}
theorem sub_dict (H : S C its s) (hm : (a, DictI knd kvs ep) ∈ its) (hk : knd.is k key = true) (hv : valueAt kvs k = some X) (hs : subscripted slice false (.ref a) key = operate [.ref a, key] (getItem (.ref a) key)) (h : ∀ s', S C its s' → Ret X Q s') :
    wpAny (model prog w) A (subscriptTail value slice (.ref a) key) Q E s := by
  obtain ⟨o, ho, us, ⟨es, ep', ⟨h1, h2, h3⟩, _⟩, _⟩ := H.get hm
  exact tail_any ⟨o, ho, h1⟩ PySem.F.slot_dict_getitem.lookup (r_getItem H hm hk hv h) hs
theorem sub_dict_m (H : S C its s) (hm : (a, DictI knd kvs ep) ∈ its) (hk : knd.is k key = true) (hv : (k, X) ∈ kvs) (hs : subscripted slice false (.ref a) key = operate [.ref a, key] (getItem (.ref a) key)) (h : ∀ s', S C its s' → Ret X Q s') :
    wpAny (model prog w) A (subscriptTail value slice (.ref a) key) Q E s := by
  obtain ⟨o, ho, hD⟩ := H.get hm
  exact sub_dict H hm hk (valueAt_mem hD.nodup hv) hs h
end
/-- xs[i], i in bounds -/
theorem r_list_item (H : S C its s) (hm : (a, ListI vs) ∈ its) (h0 : 0 ≤ i) (hz : i < 9223372036854775808) (hv : vs[i.toNat]? = some X) (h : Ret X Q s) : wpAny (model prog w) A (getItem (.ref a) (.int i t)) Q E s := by
  obtain ⟨o, ho, hL⟩ := H.get hm
  obtain ⟨us, n, hi, e⟩ := hL.at ho
  rw [er_get e] at hv
  obtain ⟨v, hv', e'⟩ := map_er hv
  exact wpAny_getItem_list (IsL.list hi) h0 (by simpa using hz) hv' (h.use e')
theorem sub_list (H : S C its s) (hm : (a, ListI vs) ∈ its) (h0 : 0 ≤ i) (hz : i < 9223372036854775808) (hv : vs[i.toNat]? = some X) (hs : subscripted slice false (.ref a) (.int i t) = operate [.ref a, .int i t] (getItem (.ref a) (.int i t))) (h : Ret X Q s) :
    wpAny (model prog w) A (subscriptTail value slice (.ref a) (.int i t)) Q E s := by
  obtain ⟨o, ho, us, n, rfl, _⟩ := H.get hm
  exact tail_any ⟨_, ho, rfl⟩ slot_list_getitem.lookup (r_list_item H hm h0 hz hv h) hs
theorem r_append (H : S C its s) (hv : er v = X) (hU : Up a (ListI vs) (ListI (vs ++ [X])) its its') (hz : vs.length ≤ 1000000) (h : ∀ s', S C its' s' → Q .none s') : wpAny (model prog w) A (call (.builtin "list.append") [.ref a, v]) Q E s := by
  subst hv
  obtain ⟨o, ho, us, n, rfl, e⟩ := H.get hU.mem
  refine wpAny_list_append_plain (items := us) ⟨_, ho⟩ (fun h' ⟨n', hp⟩ hs => h _ (H.up hU hs hp ⟨_, _, rfl, ?_⟩)) ?_
  · rw [Array.toList_push, List.map_append, e]; rfl
  · have := len_er e
    rw [this, sizeLine_eq]; omega
/-- a new list -/
theorem r_newList {us : List Value} (H : S C its s) (he : ErL us vs) (hz : us.length ≤ 1000000) (h : ∀ l s', S C ((l, ListI vs) :: its) s' → Q (.ref l) s') : wpAny (model prog w) A (newList us) Q E s := by
  refine wpAny_newObj_type (h _ _ (H.push ⟨us.toArray, 0, rfl, by simpa using he.eq⟩ rfl)) ?_
  show us.toArray.size ≤ sizeLine
  rw [List.size_toArray, sizeLine_eq]; omega
theorem r_newTuple {us : List Value} (H : S C its s) (he : ErL us vs) (hz : us.length ≤ 1000000) (h : ∀ l s', S C ((l, TupI vs) :: its) s' → Q (.ref l) s') : wpAny (model prog w) A (newTuple us) Q E s := by
  refine wpAny_newObj_type (h _ _ (H.push ⟨us.toArray, 0, rfl, by simpa using he.eq⟩ rfl)) ?_
  show us.toArray.size ≤ sizeLine
  rw [List.size_toArray, sizeLine_eq]; omega
/-- xs.pop(0) -/
theorem r_pop0 (H : S C its s) (hU : Up a (ListI (X :: vs)) (ListI vs) its its') (hz : vs.length ≤ 1000000) (h : ∀ s', S C its' s' → Ret X Q s') : wpAny (model prog w) A (call (.builtin "list.pop") [.ref a, .int 0 t]) Q E s := by
  obtain ⟨o, ho, us, n, rfl, e⟩ := H.get hU.mem
  have hlen := len_er e
  have hx := er_get e 0
  rw [List.getElem?_cons_zero] at hx
  obtain ⟨y, hy, e'⟩ := map_er hx.symm
  rw [List.length_cons] at hlen
  have hk : seqIndex? 0 us.size = some 0 := by simp [seqIndex?, hlen]
  refine call_meets PySem.F.slot_list_pop ⟨_, ho, rfl⟩ PySem.F.entry_list_pop (PySem.F.args_list_pop_2 _ _) (MeetsSeq.list_pop_at a us n 0 t 0 y (by decide +kernel) hk hy (by rw [hlen, sizeLine_eq]; omega)) ⟨ho, ?_⟩
  refine (h _ (H.up hU (Heap.SameBut.update ..) (Heap.get?_update_self _ ho rfl) ⟨us.eraseIdxIfInBounds 0, _, rfl, ?_⟩)).use e'
  have : (us.eraseIdxIfInBounds 0).toList = us.toList.tail := by
    obtain ⟨l⟩ := us
    cases l <;> simp [Array.eraseIdxIfInBounds]
  rw [this, List.map_tail, e]; rfl
variable {x D dx : Addr} {attrs attrs' : List (Str × Value)} {ep : Option Nat} {name : Str}
theorem r_setattr_m {Q : Unit → Shared → Prop} (H : S C its s) (hB : Bs prog w K gl C) (hm : (x, InstI D dx) ∈ its) (hv : er v = X) (hm' : (dx, DictI (sk prog w) attrs ep) ∈ its) (hd : Du name X attrs attrs') (hU : Up dx (DictI (sk prog w) attrs ep) (DictI (sk prog w) attrs' none) its its')
    (hs : findIn K (.ref D) "__setattr__" = some (some (.builtin "object.__setattr__"))) (hp : plainOver K D = true) (ht : takerIn K D name = some none) (hh : hasDictIn K D = true) (hz : attrs.length ≤ 900)
    (h : ∀ s', S C its' s' → Q () s') : wpAny (model prog w) A (setAttr (.ref x) name v) Q E s := by
  obtain ⟨o, ho, hD⟩ := H.get hU.mem
  rw [← hd.stored hD.nodup] at hU
  exact r_setattr H hB hm hv hU hs hp ht hh hz h
theorem r_setattr_new {Q : Unit → Shared → Prop} (H : S C its s) (hB : Bs prog w K gl C) (hm : (x, InstI D dx) ∈ its) (hv : er v = X) (hn : (attrs.map (·.1)).contains name = false) (hU : Up dx (DictI (sk prog w) attrs ep) (DictI (sk prog w) (attrs ++ [(name, X)]) none) its its')
    (hs : findIn K (.ref D) "__setattr__" = some (some (.builtin "object.__setattr__"))) (hp : plainOver K D = true) (ht : takerIn K D name = some none) (hh : hasDictIn K D = true) (hz : attrs.length ≤ 900)
    (h : ∀ s', S C its' s' → Q () s') : wpAny (model prog w) A (setAttr (.ref x) name v) Q E s := by
  rw [← stored_new hn] at hU
  exact r_setattr H hB hm hv hU hs hp ht hh hz h
section
variable {α : Type} [DecidableEq α] {knd : PySem.KeyKind prog w α} {kvs : List (α × Value)} {ep : Option Nat} {k : α} {key : Value}
theorem r_notIn_f (H : S C its s) (hm : (a, DictI knd kvs ep) ∈ its) (hk : knd.is k key = true) (ha : (a == sysModules) = false) (hv : valueAt kvs k = some X) (h : ∀ s', S C its s' → Q (.bool false) s') :
    wpAny (model prog w) A (compareOp .NotIn key (.ref a)) Q E s := r_notIn H hm hk ha fun s' H' => by rw [hv]; exact h s' H'
theorem r_get2_s {d : Value} (H : S C its s) (hm : (a, DictI knd kvs ep) ∈ its) (hk : knd.is k key = true) (ha : (a == sysModules) = false) (hv : valueAt kvs k = some X) (h : ∀ s', S C its s' → Ret X Q s') :
    wpAny (model prog w) A (call (.builtin "dict.get") [.ref a, key, d]) Q E s := r_get2 H hk ha hm fun s' H' => by rw [hv]; exact h s' H'
theorem r_get2_n {d : Value} (H : S C its s) (hm : (a, DictI knd kvs ep) ∈ its) (hk : knd.is k key = true) (ha : (a == sysModules) = false) (hv : valueAt kvs k = none) (h : ∀ s', S C its s' → Q d s') :
    wpAny (model prog w) A (call (.builtin "dict.get") [.ref a, key, d]) Q E s := r_get2 H hk ha hm fun s' H' => by rw [hv]; exact h s' H'
theorem r_delItem_s {Q : Unit → Shared → Prop} (H : S C its s) (hk : knd.is k key = true) (hp : (keyPart key).isSome = true)
    (hU : Up a (DictI knd kvs ep) (DictI knd (without kvs k) none) its its') (hv : valueAt kvs k = some X) (hz : kvs.length ≤ 100000) (h : ∀ s', S C its' s' → Q () s') :
    wpAny (model prog w) A (delItem (.ref a) key) Q E s := r_delItem H hk hp hU (by rw [hv]; rfl) hz h
end
end
end Mc
namespace Mc
section
variable {prog : Program} {w : World} {A : Around} {E : Value → Shared → Prop} {C : Cx} {its its' : List Item} {s : Shared} {a : Addr} {Q : Value → Shared → Prop} {X : Value} {α : Type} [DecidableEq α] {knd : PySem.KeyKind prog w α} {kvs : List (α × Value)} {ep : Option Nat} {k : α} {key : Value}
theorem r_in_t (H : S C its s) (hm : (a, DictI knd kvs ep) ∈ its) (hk : knd.is k key = true) (ha : (a == sysModules) = false) (hv : valueAt kvs k = some X) (h : ∀ s', S C its s' → Q (.bool true) s') :
    wpAny (model prog w) A (compareOp .In key (.ref a)) Q E s := r_in H hm hk ha fun s' H' => by rw [hv]; exact h s' H'
end
end Mc
namespace Mc
inductive Pk1 (p : Item) : List Item → List Item → Prop
  | head {r} : Pk1 p (p :: r) r
  | tail {q r r'} : Pk1 p r r' → Pk1 p (q :: r) (q :: r')
theorem Pk1.perm {p : Item} {l l' : List Item} (h : Pk1 p l l') : l.Perm (p :: l') := by
  induction h with
  | head => exact List.Perm.refl _
  | tail _ ih => exact (List.Perm.cons _ ih).trans (List.Perm.swap _ _ _)
inductive Pks : List Item → List Item → List Item → Prop
  | nil {l} : Pks [] l l
  | cons {p ps l l₁ l₂} : Pk1 p l l₁ → Pks ps l₁ l₂ → Pks (p :: ps) l l₂
theorem Pks.perm {ps l l' : List Item} (h : Pks ps l l') : l.Perm (ps ++ l') := by
  induction h with
  | nil => exact List.Perm.refl _
  | cons h1 _ ih => exact h1.perm.trans (List.Perm.cons _ ih)
theorem S.pick {C : Cx} {its ps l rest : List Item} {s : Shared} (H : S C its s) (h : Pks ps its l) (hr : rest.Sublist l) : S C (ps ++ rest) s :=
  (H.perm h.perm).mono (List.Sublist.append_left hr ps)
end Mc
namespace Mc
section
variable {prog : Program} {w : World} {A : Around} {E : Value → Shared → Prop} {C : Cx} {its its' : List Item} {s : Shared} {d : Addr} {Q : Value → Shared → Prop} {X dflt : Value} {α : Type} [DecidableEq α] {knd : PySem.KeyKind prog w α} {kvs : List (α × Value)} {ep : Option Nat} {k : α} {key : Value}
theorem r_pop1 (H : S C its s) (hk : knd.is k key = true) (hp : (keyPart key).isSome = true) (hU : Up d (DictI knd kvs ep) (DictI knd (without kvs k) none) its its') (hv : valueAt kvs k = some X) (hz : kvs.length ≤ 100000) (h : ∀ s', S C its' s' → Ret X Q s') :
    wpAny (model prog w) A (call (.builtin "dict.pop") [.ref d, key]) Q E s := r_pop H hk hp (.inl rfl) (PySem.F.args_dict_pop_2 _ _) hU hv hz h
theorem r_pop2 (H : S C its s) (hk : knd.is k key = true) (hp : (keyPart key).isSome = true) (hU : Up d (DictI knd kvs ep) (DictI knd (without kvs k) none) its its') (hv : valueAt kvs k = some X) (hz : kvs.length ≤ 100000) (h : ∀ s', S C its' s' → Ret X Q s') :
    wpAny (model prog w) A (call (.builtin "dict.pop") [.ref d, key, dflt]) Q E s := r_pop H hk hp (.inr ⟨_, rfl⟩) (PySem.F.args_dict_pop_3 _ _ _) hU hv hz h
end
end Mc

namespace Mc
section
variable {prog : Program} {w : World} {A : Around} {E : Value → Shared → Prop} {K : Frag} {gl : List (Str × Value)} {C : Cx} {its its' : List Item} {s : Shared} {L a it : Addr} {loc : List (Str × Option Value)} {vs : List Value} {X v : Value} {x D dx : Addr} {attrs attrs' : List (Str × Value)} {ep : Option Nat} {name : Str}
/-- x.name(..) where name is a thing of the instance's own -/
theorem r_meth_own {pl : Sem Bool} {Q : Value × List Value → Shared → Prop} (H : S C its s) (hB : Bs prog w K gl C) (hm : (x, InstI D dx) ∈ its) (hd : (dx, DictI (sk prog w) attrs ep) ∈ its)
    (hv : (name, X) ∈ attrs) (hg : plainGet K D name = true) (hh : hasDictIn K D = true) (hf : findIn K (.ref D) name = some none) (hx : handedIn X = true) (h : ∀ s', S C its s' → Ret X (fun v => Q (v, [])) s') :
    wpAny (model prog w) A (getMethod (.ref x) name pl) Q E s := by
  obtain ⟨es, n, us, I, hod, hk, hp, e, nd⟩ := InstI.at H hm hd
  exact method_usual (hB.k H) I (plainGet_of hg).1 (plainGet_of hg).2 hf rfl (r_attr H hB hm hd hv hg hh hf rfl hx h)
/-- C(..) -/
theorem r_make {R : Result → Shared → Prop} {rest : List Value} {kw : List (Str × Value)} {fI : Addr} (H : S C its s) (hB : Bs prog w K gl C) (hm : makesIn K D = true) (hi : findIn K (.ref D) "__init__" = some (some (.ref fI))) (hf : typeIn K (.ref fI) = some (.type "function"))
    (h : ∀ x dx s', S C ((x, InstI D dx) :: (dx, DictI (sk prog w) [] none) :: its) s' → codeAny (model prog w) (A.under (.builtin "type.__call__" ⟨.ref D :: rest, kw⟩)) (.call (.ref fI) ⟨.ref x :: rest, kw⟩) (InitBack x R) s') :
    codeAny (model prog w) A (.call (.ref D) ⟨rest, kw⟩) R s := by
  obtain ⟨hh, g, d, t, os⟩ := s
  refine make_core (makes_of (hB.k H) hm) (looks_findIn (hB.k H) hi) (fun self => bind_fn (hB.k H) self hf) (.inl rfl) (h _ hh.objs.size _ ?_)
  have H1 : S C ((hh.objs.size, DictI (sk prog w) [] none) :: its) ⟨hh.push emptyDict, g, d, t, os⟩ := H.push (o := emptyDict) ⟨[], ⟨#[], 0, ⟨rfl, rfl, rfl⟩, rfl, (fun e he => by simp at he), .nil, List.nodup_nil⟩, rfl, nofun⟩ rfl
  have H2 := H1.push (o := instObj D hh.objs.size) (P := InstI D hh.objs.size) (d := d) (t := t) rfl rfl
  have e : ((⟨hh.push emptyDict, g, d, t, os⟩ : Shared).heap).objs.size = hh.objs.size + 1 := by show (hh.push emptyDict).objs.size = _; rw [Heap.size_push]
  rw [e] at H2
  exact H2
theorem Rm.under_make {A : Around} {d u : Nat} (h : Rm A (d + 1) (u + 1)) (D : Addr) (rest : List Value) (kw : List (Str × Value)) : Rm (A.under (.builtin "type.__call__" ⟨.ref D :: rest, kw⟩)) d u :=
  ⟨h.hd, by have := h.dep; rw [depth_under_kw]; omega, by have := h.un; show A.units + 1 + u < _; omega⟩

/-- a list of tuples, taken apart -/
theorem nxT_list (l : Addr) (ts : List Addr) (tup : Nat → List Value) (hit : it ∉ C.tb) :
    NxT prog w C it ts.length (fun i us => us.map er = tup i) (ListIt l) (fun its => (l, ListI (ts.map .ref)) ∈ its ∧ ∀ i (h : i < ts.length), (ts[i], TupI (tup i)) ∈ its) := by
  refine ⟨fun A its s Q E Y elts k pos i hA H hn hi h => ?_, fun A its s Q E hA H hn h => ?_⟩
  · obtain ⟨o, ho, hc, hd⟩ := H.get (.head _)
    obtain ⟨ol, hol, hL⟩ := H.get (.tail _ hn.1)
    obtain ⟨us, n, hi', e⟩ := hL.at hol
    have hx := er_get e i
    rw [List.getElem?_map, List.getElem?_eq_getElem hi] at hx
    obtain ⟨v, hv, e2⟩ := map_er hx.symm
    have ev : v = .ref ts[i] := by cases v <;> simp [er] at e2; rw [e2]
    subst ev
    refine wpAny_pyNext_list_item ⟨o, ho, hc, hd⟩ (IsL.list hi') hv fun h' ⟨o', ho', hc', hd'⟩ hs => ?_
    have H' : S C ((it, ListIt l (i + 1)) :: its) (⟨h', s.gens, s.drawn, s.toks, s.os⟩ : Shared) := H.up .head hs ho' ⟨hc', hd'⟩
    obtain ⟨ot, hot, vt, nt, rfl, et⟩ := H'.get (.tail _ (hn.2 i hi))
    refine wpAny_letOwnedTupleGo_listiter ⟨_, ho', hc', hd'⟩ ?_
    exact h _ ts[i] vt.toList _ et rfl H' ⟨_, by simpa using hot, rfl, nt, by simp⟩
  · obtain ⟨o, ho, hc, hd⟩ := H.get (.head _)
    obtain ⟨ol, hol, hL⟩ := H.get (.tail _ hn.1)
    obtain ⟨us, n, hi', e⟩ := hL.at hol
    refine wpAny_pyNext_list_end hA ⟨o, ho, hc, hd⟩ (IsL.list hi') ?_ fun h' hx => h _ (H.extBut hx hit)
    have := len_er e
    rw [List.length_map] at this
    rw [← this]; simp
section
variable {α : Type} [DecidableEq α] {knd : PySem.KeyKind prog w α} {kvs : List (α × Value)} {d : Addr}
/-- the epoch of a dict is named -/
theorem S.named (H : S C ((d, DictI knd kvs ep) :: its) s) : ∃ n, S C ((d, DictI knd kvs (some n)) :: its) s := by
  obtain ⟨o, ho, us, hu, e, _⟩ := H.get (.head _)
  obtain ⟨es, n, h1, h2, h3, h4, h5⟩ := id hu
  refine ⟨n, H.keep, fun p hp => ?_, fun p hp => ?_, H.nd, H.tbs, H.gens, H.os, H.big, H.n1⟩
  · rcases List.mem_cons.mp hp with rfl | hp
    · exact ⟨o, ho, us, hu, e, fun m hm => ⟨es, by cases hm; exact h2⟩⟩
    · exact H.own p (.tail _ hp)
  · rcases List.mem_cons.mp hp with rfl | hp
    · exact H.new (d, DictI knd kvs ep) (.head _)
    · exact H.new p (.tail _ hp)
theorem S.unnamed (H : S C ((d, DictI knd kvs ep) :: its) s) : S C ((d, DictI knd kvs none) :: its) s := by
  refine ⟨H.keep, fun p hp => ?_, fun p hp => ?_, H.nd, H.tbs, H.gens, H.os, H.big, H.n1⟩
  · rcases List.mem_cons.mp hp with rfl | hp
    · obtain ⟨o, ho, us, hu, e, _⟩ := H.get (.head _)
      exact ⟨o, ho, us, hu, e, nofun⟩
    · exact H.own p (.tail _ hp)
  · rcases List.mem_cons.mp hp with rfl | hp
    · exact H.new (d, DictI knd kvs ep) (.head _)
    · exact H.new p (.tail _ hp)
theorem S.extTo {P P' : Obj → Prop} (H : S C ((a, P) :: its) s) {h' : Heap} (hx : Heap.ExtBut a s.heap h') (ht : a ∉ C.tb) {o : Obj} (ho : h'.get? a = some o) (hP : P' o) {d : Drawn} {t : Nat} : S C ((a, P') :: its) ⟨h', s.gens, d, t, s.os⟩ := by
  have H' := H.extBut hx ht (d := d) (t := t)
  have nd := H.nd
  refine ⟨H'.keep, fun p hp => ?_, fun p hp => ?_, nd, H'.tbs, H'.gens, H'.os, H.big, H.n1⟩
  · rcases List.mem_cons.mp hp with rfl | hp
    · exact ⟨o, ho, hP⟩
    · exact H'.own p hp
  · rcases List.mem_cons.mp hp with rfl | hp
    · exact H.new (a, P) (.head _)
    · exact H.new p (.tail _ hp)
noncomputable def ItemIt (d : Addr) (n ep : Nat) (i : Nat) (o : Obj) : Prop := ∃ ok ov, o = { cls := .type "dict_itemiterator", data := .fields #[.none, .bool false, .ref d, .int i 0, .int n 0, .int ep 0, ok, ov] }
/-- d.items(), taken apart -/
theorem nxT_items (n : Nat) (hit : it ∉ C.tb) :
    NxT prog w C it kvs.length (fun i us => ∃ k X key v, kvs[i]? = some (k, X) ∧ us = [key, v] ∧ knd.is k key = true ∧ er v = X) (ItemIt d kvs.length n) (fun its => (d, DictI knd kvs (some n)) ∈ its) := by
  refine ⟨fun A its s Q E Y elts k pos i hA H hn hi h => ?_, fun A its s Q E hA H hn h => ?_⟩
  · obtain ⟨o, ho, ok, ov, rfl⟩ := H.get (.head _)
    obtain ⟨od, hod, us, ⟨es, n', h1, h2, h3, h4, h5⟩, e, hn'⟩ := H.get (.tail _ hn)
    obtain ⟨es', he⟩ := hn' n rfl
    rw [h2] at he; cases he
    have hl : us.length = kvs.length := by rw [← e]; simp
    have hat : Heap.DictAt knd s.heap d us n := ⟨od, es, hod, h1, h2, h3, h4, h5⟩
    have hi' : i < us.length := by omega
    have ho' : IsItemIter s.heap it d i us.length n ok ov := by rw [hl]; exact ho
    refine wpAny_pyNext_items_item ho' hat (List.getElem?_eq_getElem hi') fun key h' hk hI ht hsz hkp => ?_
    refine wpAny_letOwnedTupleGo_items hI fun h'' hI' hs => ?_
    have hne : s.heap.objs.size ≠ it := Nat.ne_of_gt (H.lt (.head _))
    have H' : S C ((it, ItemIt d kvs.length n (i + 1)) :: its) (⟨h'', s.gens, s.drawn, s.toks, s.os⟩ : Shared) :=
      H.extTo (fun b o hb e => (hs.2 b hb).trans (hkp b o hb e)) hit hI' (by rw [← hl]; exact ⟨_, _, rfl⟩)
    refine h _ s.heap.objs.size [key, (us[i]'hi').2] _ ⟨(us[i]'hi').1, er (us[i]'hi').2, key, (us[i]'hi').2, ?_, rfl, hk, rfl⟩ rfl H' ⟨_, (hs.2 _ hne).trans ht, rfl, 0, rfl⟩
    rw [← e, List.getElem?_map, List.getElem?_eq_getElem hi']; rfl
  · obtain ⟨o, ho, ok, ov, rfl⟩ := H.get (.head _)
    obtain ⟨od, hod, us, ⟨es, n', h1, h2, h3, h4, h5⟩, e, hn'⟩ := H.get (.tail _ hn)
    obtain ⟨es', he⟩ := hn' n rfl
    rw [h2] at he; cases he
    have hl : us.length = kvs.length := by rw [← e]; simp
    have hat : Heap.DictAt knd s.heap d us n := ⟨od, es, hod, h1, h2, h3, h4, h5⟩
    have ho' : IsItemIter s.heap it d kvs.length us.length n ok ov := by rw [hl]; exact ho
    exact wpAny_pyNext_items_end hA ho' hat (by rw [← hl]; simp) fun h' hx => h _ (H.extBut hx hit)
theorem it_items {v d : Addr} {n : Nat} {Q : Value → Shared → Prop} (H : S C its s) (hv : (v, ViewI "dict_items" d) ∈ its) (hd : (d, DictI knd kvs (some n)) ∈ its) (h : ∀ it s', it ∉ C.tb → S C ((it, ItemIt d kvs.length n 0) :: its) s' → Q (.ref it) s') :
    wpAny (model prog w) A (pyIter (.ref v)) Q E s := by
  obtain ⟨o, ho, rfl⟩ := H.get hv
  obtain ⟨od, hod, us, ⟨es, n', h1, h2, h3, h4, h5⟩, e, hn'⟩ := H.get hd
  obtain ⟨es', he⟩ := hn' n rfl
  rw [h2] at he; cases he
  have hl : us.length = kvs.length := by rw [← e]; simp
  refine wpAny_pyIter_items ⟨_, ho, rfl, rfl⟩ (knd := knd) (kvs := us) ⟨od, es, hod, h1, h2, h3, h4, h5⟩ (h _ _ H.fresh_tb (H.push ?_ rfl))
  rw [hl]; exact ⟨_, _, rfl⟩
theorem r_items {Q : Value → Shared → Prop} (H : S C its s) (hd : (d, DictI knd kvs ep) ∈ its) (hS : (d == sysModules) = false) (h : ∀ v s', S C ((v, ViewI "dict_items" d) :: its) s' → Q (.ref v) s') :
    wpAny (model prog w) A (call (.builtin "dict.items") [.ref d]) Q E s := by
  obtain ⟨o, ho, hD⟩ := H.get hd
  obtain ⟨us, h1, h2⟩ := hD.at ho
  exact call_meetsIn PySem.F.slot_dict_items h1.typeIs PySem.F.entry_dict_items (PySem.F.args_dict_items_1 _) (meets_dict_items knd d hS) ⟨⟨us, h1⟩, h _ _ (H.push (o := { cls := .type "dict_items", data := .fields #[.ref d] }) (P := ViewI "dict_items" d) rfl rfl)⟩

end
end
end Mc
namespace Mc
section
variable {prog : Program} {w : World} {A : Around} {E : Value → Shared → Prop} {C : Cx} {its its' : List Item} {s : Shared} {Q : Value → Shared → Prop} {x : Str} {t : Tok} {i : Int}
theorem r_ff_str (H : S C its s) (hx : x.length ≤ 1000000) (h : ∀ t s', S C its s' → Q (.str x t) s') : wpAny (model prog w) A (formatField (.str x t) Str.empty) Q E s :=
  wpAny_formatField_str (h _ _ H) (h _ _ H.tk) (by rw [sizeLine_eq]; omega)
theorem r_ff_int (H : S C its s) (hi : -1000000000 ≤ i ∧ i ≤ 1000000000) (h : ∀ t s', S C its s' → Q (.str (Str.ofString (toString i)) t) s') : wpAny (model prog w) A (formatField (.int i t) Str.empty) Q E s := by
  refine wpAny_formatField_int ?_ (h _ _ H.tk)
  have : i.natAbs < 2 ^ 30 := by have : (2:Nat) ^ 30 = 1073741824 := by decide
                                 omega
  by_cases h0 : i.natAbs = 0
  · rw [h0]; decide
  · have := (Nat.log2_lt h0).mpr this
    omega
theorem sizeLine_ge : 1000000 ≤ sizeLine := by rw [sizeLine_eq]; decide
end
end Mc

namespace Mc
section
variable {prog : Program} {w : World} {A : Around} {E : Value → Shared → Prop} {K : Frag} {gl : List (Str × Value)} {C : Cx} {its its' : List Item} {s : Shared} {L a it : Addr} {loc : List (Str × Option Value)} {vs : List Value}
  {α : Type} [DecidableEq α] {knd : PySem.KeyKind prog w α} {kvs : List (α × Value)} {ep : Option Nat}
/-- a step between: what is wanted behind a part -/
theorem cut {β : Type} {M : Model} {t : Sem β} {Q : β → Shared → Prop} (P : β → Shared → Prop) (h1 : wpAny M A t P E s) (h2 : ∀ a s, P a s → Q a s) : wpAny M A t Q E s := wpAny_mono h1 h2 (fun _ _ h => h)
theorem r_truthy_list {Q : Bool → Shared → Prop} (H : S C its s) (hm : (a, ListI vs) ∈ its) (hz : vs.length ≤ 1048576) (h : ∀ s', S C its s' → Q (!vs.isEmpty) s') :
    wpAny (model prog w) A (truthy (.ref a)) Q E s := by
  obtain ⟨o, ho, hL⟩ := H.get hm
  obtain ⟨us, n, hi, e⟩ := hL.at ho
  have e' := len_er e
  refine wpAny_truthy_list (IsL.list hi) (by rw [e']; omega) ?_
  have : us.isEmpty = vs.isEmpty := by
    rw [← e]
    cases us with | mk l => cases l <;> rfl
  rw [this]
  exact h _ H.tk
theorem r_truthy_dict {Q : Bool → Shared → Prop} (H : S C its s) (hm : (a, DictI knd kvs ep) ∈ its) (ha : (a == sysModules) = false) (hz : kvs.length ≤ 1048576) (h : ∀ s', S C its s' → Q (!kvs.isEmpty) s') :
    wpAny (model prog w) A (truthy (.ref a)) Q E s := by
  obtain ⟨o, ho, hD⟩ := H.get hm
  obtain ⟨us, h1, h2⟩ := hD.at ho
  subst h2
  rw [List.length_map] at hz
  refine wpAny_truthy_dict ha h1 (by omega) ?_
  have : us.isEmpty = (us.map ek).isEmpty := by cases us <;> rfl
  rw [this]
  exact h _ H.tk
end
end Mc

namespace Mc
section
variable {prog : Program} {w : World} {A : Around} {E : Value → Shared → Prop} {K : Frag} {gl : List (Str × Value)} {C : Cx} {its its' : List Item} {s : Shared} {L a it : Addr} {loc : List (Str × Option Value)} {vs : List Value} {X Y : Value}
  {α : Type} [DecidableEq α] {knd : PySem.KeyKind prog w α} {kvs : List (α × Value)} {ep : Option Nat}
theorem S.tkTo {s' : Shared} (H : S C its s) (h1 : s'.heap = s.heap) (h2 : s'.gens = s.gens) (h3 : s'.os = s.os) : S C its s' := by
  obtain ⟨hp, g, d, t, o⟩ := s'
  cases h1; cases h2; cases h3
  exact H.tk
/-- the end of a while loop's turn -/
noncomputable def WTurn (C : Cx) (n : Nat) (Inv : Nat → List Item → Prop) (R : Result → Shared → Prop) (f : Flow) (s : Shared) : Prop := match f with
  | .next => ∃ m l', m < n ∧ Inv m l' ∧ S C l' s
  | .cont => ∃ m l', m < n ∧ Inv m l' ∧ S C l' s
  | .brk => R (.ok .next) s
  | .ret v => R (.ok (.ret v)) s
end
end Mc

namespace Mc
section
variable {prog : Program} {w : World} {A : Around} {E : Value → Shared → Prop} {K : Frag} {gl : List (Str × Value)} {C : Cx} {its its' : List Item} {s : Shared} {L a it : Addr} {loc : List (Str × Option Value)} {vs : List Value} {X Y v : Value} {x D dx : Addr} {attrs attrs' : List (Str × Value)} {ep : Option Nat} {name : Str}
/-- a class: names that only instances have; methods; properties -/
structure ClsOk (K : Frag) (D : Addr) (own : List Str) (ms : List (Str × Addr)) (ps : List (Str × Addr × Addr)) : Prop where
  pg : plainGet K D "" = true
  hd : hasDictIn K D = true
  sa : findIn K (.ref D) "__setattr__" = some (some (.builtin "object.__setattr__"))
  po : plainOver K D = true
  own : ∀ n ∈ own, findIn K (.ref D) n = some none ∧ takerIn K D n = some none
  ms : ∀ p ∈ ms, findIn K (.ref D) p.1 = some (some (.ref p.2)) ∧ isFn K (.ref p.2) = true
  ps : ∀ p ∈ ps, findIn K (.ref D) p.1 = some (some (.ref p.2.1)) ∧ specialIn K (.ref p.2.1) "__get__" = some (some (.builtin "property.__get__")) ∧ takesIn K (.ref p.2.1) = some true ∧ ∃ rest, recIn K p.2.1 "property" = some (.ref p.2.2 :: rest)
variable {own : List Str} {ms : List (Str × Addr)} {ps : List (Str × Addr × Addr)}
theorem rc_attr {expr : Bool} {Q : Value → Shared → Prop} (H : S C its s) (hB : Bs prog w K gl C) (hm : (x, InstI D dx) ∈ its) (hC : ClsOk K D own ms ps) (hd : (dx, DictI (sk prog w) attrs ep) ∈ its) (hn : name ∈ own) (hv : (name, X) ∈ attrs)
    (hx : handedIn X = true) (h : ∀ s', S C its s' → Ret X Q s') : wpAny (model prog w) A (getAttr (.ref x) name expr) Q E s :=
  r_attr (attr := none) H hB hm hd hv hC.pg hC.hd (hC.own _ hn).1 rfl hx h
theorem rc_prop {expr : Bool} {Q : Value → Shared → Prop} {p fget : Addr} (H : S C its s) (hB : Bs prog w K gl C) (hm : (x, InstI D dx) ∈ its) (hC : ClsOk K D own ms ps) (hd : (dx, DictI (sk prog w) attrs ep) ∈ its) (hp : (name, p, fget) ∈ ps)
    (h : ∀ s' tk, S C its s' → codeAny (model prog w) A.in1 (.call (.ref fget) ⟨[.ref x], []⟩) (fun r s' => match r with | .ok (.ret v) => wpAny (model prog w) A (handedOut v) Q E s' | .ok _ => False | .error e => wpAny (model prog w) A (noteIf true (.ref x) (.str name tk) e) (fun _ s'' => E e s'') E s') s') :
    wpAny (model prog w) A (getAttr (.ref x) name expr) Q E s := by
  obtain ⟨h1, h2, h3, rest, h4⟩ := hC.ps _ hp
  exact r_prop H hB hm hd hC.pg hC.hd h1 h2 h3 h4 h
theorem rc_meth {pl : Sem Bool} {Q : Value × List Value → Shared → Prop} {f : Addr} (H : S C its s) (hB : Bs prog w K gl C) (hm : (x, InstI D dx) ∈ its) (hC : ClsOk K D own ms ps) (hd : (dx, DictI (sk prog w) attrs ep) ∈ its)
    (hp : (name, f) ∈ ms) (hno : (attrs.map (·.1)).contains name = false) (h : Q (.ref f, [.ref x]) s) :
    wpAny (model prog w) A (getMethod (.ref x) name pl) Q E s :=
  r_meth H hB hm hd hC.pg (hC.ms _ hp).1 (hC.ms _ hp).2 hno h
theorem rc_meth_own {pl : Sem Bool} {Q : Value × List Value → Shared → Prop} (H : S C its s) (hB : Bs prog w K gl C) (hm : (x, InstI D dx) ∈ its) (hC : ClsOk K D own ms ps) (hd : (dx, DictI (sk prog w) attrs ep) ∈ its) (hn : name ∈ own)
    (hv : (name, X) ∈ attrs) (hx : handedIn X = true) (h : ∀ s', S C its s' → Ret X (fun v => Q (v, [])) s') :
    wpAny (model prog w) A (getMethod (.ref x) name pl) Q E s := r_meth_own H hB hm hd hv hC.pg hC.hd (hC.own _ hn).1 hx h
theorem rc_setattr_m {Q : Unit → Shared → Prop} (H : S C its s) (hB : Bs prog w K gl C) (hm : (x, InstI D dx) ∈ its) (hC : ClsOk K D own ms ps) (hn : name ∈ own) (hv : er v = X) (hm' : (dx, DictI (sk prog w) attrs ep) ∈ its) (hd : Du name X attrs attrs') (hU : Up dx (DictI (sk prog w) attrs ep) (DictI (sk prog w) attrs' none) its its')
    (hz : attrs.length ≤ 900) (h : ∀ s', S C its' s' → Q () s') : wpAny (model prog w) A (setAttr (.ref x) name v) Q E s :=
  r_setattr_m H hB hm hv hm' hd hU hC.sa hC.po (hC.own _ hn).2 hC.hd hz h
theorem rc_setattr_new {Q : Unit → Shared → Prop} (H : S C its s) (hB : Bs prog w K gl C) (hm : (x, InstI D dx) ∈ its) (hC : ClsOk K D own ms ps) (hn : name ∈ own) (hv : er v = X) (hU : Up dx (DictI (sk prog w) attrs ep) (DictI (sk prog w) (attrs ++ [(name, X)]) none) its its') (hno : (attrs.map (·.1)).contains name = false)
    (hz : attrs.length ≤ 900) (h : ∀ s', S C its' s' → Q () s') : wpAny (model prog w) A (setAttr (.ref x) name v) Q E s :=
  r_setattr_new H hB hm hv hno hU hC.sa hC.po (hC.own _ hn).2 hC.hd hz h
theorem Up.appL {a : Addr} {P P' : Obj → Prop} {r : List Item} {l l' : List Item} (h : Up a P P' l l') : Up a P P' (l ++ r) (l' ++ r) := by
  induction h with
  | head => exact .head
  | tail _ ih => exact .tail ih
theorem Up.appR {a : Addr} {P P' : Obj → Prop} {r r' : List Item} (h : Up a P P' r r') {l : List Item} : Up a P P' (l ++ r) (l ++ r') := by
  induction l with
  | nil => exact h
  | cons _ _ ih => exact .tail ih
theorem wp_if_pos {c : Prop} [Decidable c] {p q : Prop} (h : c) (hp : p) : if c then p else q := by rw [if_pos h]; exact hp
theorem wp_if_neg {c : Prop} [Decidable c] {p q : Prop} (h : ¬ c) (hq : q) : if c then p else q := by rw [if_neg h]; exact hq
/-- a call of a function whose names are no cells; its surroundings are hidden -/
theorem call_fnL {fd : FuncData} {o : Obj} {body : List Stmt} {args : Args} {binds : List (Str × Value)} {loc : List (Str × Option Value)} {R : Result → Shared → Prop} {f : Addr}
    (H : S C its s) (hB : Bs prog w K gl C) (ho : s.heap.get? f = some o) (hd : o.data = .func fd) (hcd : s.heap.CodeRec fd.code fd.qualname) (hbody : fd.body = .stmts body) {dd uu : Nat} (hA : Rm A (dd + 1) (uu + 3))
    (hbind : BindsTo s fd args binds) (hcell : (fd.scope.names.all fun y => y.2 != .cell) = true) (hloc : (binds.all fun y => decide (fd.scope.names.lookup y.1 = some .local)) = true)
    (hnd : nodupB (loc.map (·.1)) = true) (hl : loc = loc.map fun p => (p.1, (binds.reverse.lookup p.1).map er))
    (h : ∀ (L : Addr) (s' : Shared) (A' : Around) (E' : Value → Shared → Prop), Rm A' dd uu → S C ((L, NsI loc) :: its) s' → let env : Env := callEnv fd L f; wpAny (model prog w) A' (execs body env) (fun fl s'' => R (.ok (.ret (match fl with | .ret v => v | _ => .none))) s'') E' s')
    (hco : fd.scope.isCoroutine = false := by rfl) (hgen : fd.scope.isGenerator = false := by rfl) (hk : fd.scope.kind = .function := by rfl) :
    codeAny (model prog w) A (.call (.ref f) args) R s :=
  call_fn H hB ho hd hcd hbody hA hbind hcell hloc hnd hl (fun L s' hA' H' => h L s' _ _ hA' H') hco hgen hk
end
end Mc

namespace Mc
theorem slot_fn_ga : Slot "function" "__getattribute__" "object.__getattribute__" :=
  .of (owner := "object") (n := "__getattribute__") (by rw [typeLookup_type, builtinLookup_eq_fast]; kernel_rfl) (by decide +kernel) (by decide +kernel) (by decide +kernel)
    (by first | exact .inl (by decide +kernel) | exact .inr (by decide +kernel)) (by rw [isSubtype_type]; kernel_rfl)
theorem lk_fn_class : typeLookup (.type "function") "__class__" = pure (some (.builtin "object.__class__")) := by rw [typeLookup_type, builtinLookup_eq_fast]; kernel_rfl
theorem sub_fn_class_owner : isSubtype (.type "function") (.type (".".intercalate ("object.__class__".cutAt '.').dropLast)) = pure true := by
  rw [F.owner_object_class, isSubtype_type]; kernel_rfl
section
variable {prog : Program} {w : World} {A : Around} {E : Value → Shared → Prop} {h : Heap} {g : Array GenState} {d : Drawn} {t : Nat} {os : OsState} {a : Addr} {o : Obj}
theorem class_get_fn {R : Result → Shared → Prop} (hx : h.get? a = some o) (hc : o.cls = .type "function") (hq : R (.ok (.ret (.type "function"))) ⟨h, g, d, t, os⟩) :
    codeAny (model prog w) A (.call (.builtin "getset_descriptor.__get__") ⟨[.builtin "object.__class__", .ref a, .type "function"], []⟩) R ⟨h, g, d, t, os⟩ := by
  have hT : (⟨h, g, d, t, os⟩ : Shared).TypeIs (.ref a) "function" := ⟨_, hx, hc⟩
  have hT5 : (⟨h, g, d, t, os⟩ : Shared).TypeIs (.builtin "object.__class__") "getset_descriptor" := F.typeOf_object_class
  have f8 := sub_fn_class_owner
  refine codeAny_call_builtin F.slot_gs_get.plain F.entry_gs_get (F.slot_gs_get.check _ _ _ _ _ _ _ _ hT5 (F.args_gs_get _ _ _) ?_)
  repeat (any_goals (first | assumption | wp_step))
  refine ⟨Code.quiet_builtin _ (by decide +kernel), codeAny_builtin F.entry_object_class ?_⟩
  repeat (any_goals (first | assumption | wp_step))
theorem class_entry_fn {tk : Tok} {Q : Fin → Shared → Prop} (hx : h.get? a = some o) (hc : o.cls = .type "function") (hq : Q (.done (.ret (.type "function"))) ⟨h, g, d, t, os⟩) :
    wpAny (model prog w) A (Builtin.«object.__getattribute__» ⟨[.ref a, .str "__class__" tk], []⟩) Q E ⟨h, g, d, t, os⟩ := by
  have hT : (⟨h, g, d, t, os⟩ : Shared).TypeIs (.ref a) "function" := ⟨_, hx, hc⟩
  have hT5 : (⟨h, g, d, t, os⟩ : Shared).TypeIs (.builtin "object.__class__") "getset_descriptor" := F.typeOf_object_class
  have f4 := lk_fn_class
  have f5 := F.typeOf_object_class
  have f6 := F.slot_gs_get.lookup
  have f7 := F.slot_gs_set.lookup
  repeat (any_goals (first | assumption | wp_step))
  refine class_get_fn hx hc ?_
  repeat (any_goals (first | assumption | wp_step))
theorem class_call_fn {tk : Tok} {R : Result → Shared → Prop} (hx : h.get? a = some o) (hc : o.cls = .type "function") (hq : R (.ok (.ret (.type "function"))) ⟨h, g, d, t, os⟩) :
    codeAny (model prog w) A (.call (.builtin "object.__getattribute__") ⟨[.ref a, .str "__class__" tk], []⟩) R ⟨h, g, d, t, os⟩ :=
  codeAny_call_builtin slot_fn_ga.plain F.entry_object_getattribute (slot_fn_ga.check _ _ _ _ _ _ _ _ (show (⟨h, g, d, t, os⟩ : Shared).TypeIs (.ref a) "function" from ⟨_, hx, hc⟩) (F.args_object_getattribute_2 _ _) (class_entry_fn hx hc hq))
theorem class_by_fn {tk : Tok} {Q : Value → Shared → Prop} (hx : h.get? a = some o) (hc : o.cls = .type "function") (hq : Q (.type "function") ⟨h, g, d, t, os⟩) : wpAny (model prog w) A (getAttrBy (.ref a) (.str "__class__" tk) false) Q E ⟨h, g, d, t, os⟩ := by
  have hT : (⟨h, g, d, t, os⟩ : Shared).TypeIs (.ref a) "function" := ⟨_, hx, hc⟩
  have f2 := slot_fn_ga.lookup
  have f3 := slot_fn_ga.bind (.ref a)
  repeat (any_goals (first | assumption | wp_step))
  refine class_call_fn hx hc ?_
  repeat (any_goals (first | assumption | wp_step))
theorem class_attr_fn {Q : Option Value → Shared → Prop} (hx : h.get? a = some o) (hc : o.cls = .type "function") (hq : Q (some (.type "function")) ⟨h, g, d, t + 1, os⟩) : wpAny (model prog w) A (getAttr? (.ref a) "__class__") Q E ⟨h, g, d, t, os⟩ := by
  unfold getAttr? getAttrBy?
  repeat (any_goals (first | assumption | with_reducible apply class_by_fn hx hc | wp_step))
theorem kitx_fn {K : Frag} {a : Addr} : KitX K (.ref a) (.type "function") (KitAt a "function") := kitx_of kitAt_ty (fun {_ _ _ _ _ s} p k => by obtain ⟨h, g, d, t, os⟩ := s; obtain ⟨o, h1, h2⟩ := p; exact class_attr_fn h1 h2 k)
theorem truthy_fn {M : Model} {s : Shared} {Q : Bool → Shared → Prop} (hx : s.heap.get? a = some o) (hc : o.cls = .type "function") (hq : Q true s) : wpAny M A (truthy (.ref a)) Q E s := by
  have f1 : typeLookup (.type "function") "__bool__" = pure none := by rw [typeLookup_type, builtinLookup_eq_fast]; kernel_rfl
  have f2 : typeLookup (.type "function") "__len__" = pure none := by rw [typeLookup_type, builtinLookup_eq_fast]; kernel_rfl
  have hT : Looks M s.heap (typeOf (.ref a)) (.type "function") := kitAt_ty (T := "function") M s.heap ⟨o, hx, hc⟩
  unfold truthy
  refine wpAny_bind (m := callSpecial? (.ref a) (Str.ofString "__bool__")) (wpAny_bind (wpAny_bind (hT.here ((Looks.of_pure f1).here (wpAny_pure ?_)))))
  refine wpAny_bind (wpAny_bind (hT.here ((Looks.of_pure f2).here ?_)))
  exact wpAny_pure hq
end
end Mc
namespace Mc
theorem slot_fn_eq : Slot "function" (cmpInfo .Eq).2.1 "object.__eq__" :=
  .of (owner := "object") (n := "__eq__") (by rw [typeLookup_type, builtinLookup_eq_fast]; kernel_rfl) (by decide +kernel) (by decide +kernel) (by decide +kernel)
    (by first | exact .inl (by decide +kernel) | exact .inr (by decide +kernel)) (by rw [isSubtype_type]; kernel_rfl)
theorem obj_eq_fn_str (a : Addr) (b : Str) (u : Tok) :
    Gives (Builtin.«object.__eq__» ⟨[.ref a, .str b u], []⟩) (.val (Value.notImplemented)) :=
  .of_wp fun M A E s Q h => by obtain ⟨hp, g, d, tk, os⟩ := s; wp_walk; exact ⟨_, rfl, h⟩
section
variable {prog : Program} {w : World} {A : Around} {E : Value → Shared → Prop} {s : Shared} {a : Addr} {o : Obj} {x : Str} {tk : Tok}
theorem str_eq_fn {Q : Value → Shared → Prop} (hx : s.heap.get? a = some o) (hc : o.cls = .type "function") {fd : FuncData} (hd : o.data = .func fd) (hq : Q .notImplemented s) :
    wpAny (model prog w) A (call (.builtin "str.__eq__") [.str x tk, .ref a]) Q E s := by
  obtain ⟨h, g, d, t, os⟩ := s
  have hT : (⟨h, g, d, t, os⟩ : Shared).TypeIs (.ref a) "function" := ⟨_, hx, hc⟩
  refine wpAny_call_entry F.slot_str_eq_refl (typeIs_str _ x tk) F.entry_str_eq ?_ (F.args_str_eq_2 _ _)
  repeat (any_goals (first | assumption | wp_step))
  rw [hd]
  repeat (any_goals (first | assumption | wp_step))
  exact ⟨_, rfl, hq⟩
theorem eq_fn_str {Q : Value → Shared → Prop} (hu : A.units < cLine) (hx : s.heap.get? a = some o) (hc : o.cls = .type "function") {fd : FuncData} (hd : o.data = .func fd) (hq : Q (.bool false) s) :
    wpAny (model prog w) A (compareOp .Eq (.ref a) (.str x tk)) Q E s := by
  have hT : s.TypeIs (.ref a) "function" := ⟨_, hx, hc⟩
  have hS : s.TypeIs (.str x tk) "str" := typeIs_str _ x tk
  have hsub : isSubtype (.type "str") (.type "function") = pure false := by rw [isSubtype_type]; kernel_rfl
  have h1 := slot_fn_eq
  have h2 := F.slot_str_eq_refl
  show wpAny _ A (richCompare .Eq _ _) Q E s
  rcases hi : cmpInfo CmpOp.Eq with ⟨sym, f, r⟩
  rw [hi] at h1 h2
  simp only [richCompare, hi, hT.oneThing_none]
  refine wpAny_holding ?_
  refine wpAny_bind (wpAny_cRoomFor hu ?_)
  refine wpAny_bind (wpAny_typeOf hT (wpAny_bind (wpAny_typeOf hS ?_)))
  simp only [show (Value.type "function" != Value.type "str") = true by decide, if_true]
  refine wpAny_bind (wpAny_of_eq hsub ?_)
  simp only [Bool.false_eq_true, if_false, Bool.not_false, if_true]
  refine wpAny_bind (m := tryCompare _ _ _) (wpAny_tryCompare_declines hT h1 (call_gives h1 hT F.entry_object_eq (F.args_object_eq_2 _ _) (obj_eq_fn_str a x tk) ⟨rfl, ?_⟩))
  refine wpAny_bind (m := tryCompare _ _ _) (wpAny_tryCompare_declines hS h2 (str_eq_fn hx hc hd ⟨rfl, ?_⟩))
  refine wpAny_bind (wpAny_rule (wpAny_bind (wpAny_of_eq (by rfl) (wpAny_pure hq))))
end
/-- a function made in the call -/
noncomputable def FnI (fd : FuncData) (o : Obj) : Prop := o = { cls := .type "function", data := .func fd }
/-- isinstance: what is asked stands for a type -/
inductive KitV (prog : Program) (w : World) (its : List Item) : Value → String → Prop
  | int {i : Int} {t : Tok} : KitV prog w its (.int i t) "int"
  | str {i : Str} {t : Tok} : KitV prog w its (.str i t) "str"
  | none : KitV prog w its .none "NoneType"
  | list {a : Addr} {vs : List Value} : (a, ListI vs) ∈ its → KitV prog w its (.ref a) "list"
  | tup {a : Addr} {vs : List Value} : (a, TupI vs) ∈ its → KitV prog w its (.ref a) "tuple"
  | dict {α : Type} [DecidableEq α] {knd : PySem.KeyKind prog w α} {kvs : List (α × Value)} {ep : Option Nat} {a : Addr} : (a, DictI knd kvs ep) ∈ its → KitV prog w its (.ref a) "dict"
  | fn {a : Addr} {fd : FuncData} : (a, FnI fd) ∈ its → KitV prog w its (.ref a) "function"
section
variable {prog : Program} {w : World} {A : Around} {E : Value → Shared → Prop} {K : Frag} {gl : List (Str × Value)} {C : Cx} {its its' : List Item} {s : Shared} {a : Addr} {fd : FuncData} {vs : List Value} {X v : Value} {x : Str} {tk : Tok}
theorem r_truthy_fn {Q : Bool → Shared → Prop} (H : S C its s) (hm : (a, FnI fd) ∈ its) (h : Q true s) : wpAny (model prog w) A (truthy (.ref a)) Q E s := by
  obtain ⟨o, ho, rfl⟩ := H.get hm
  exact truthy_fn ho rfl h
theorem r_eq_fn_str {Q : Value → Shared → Prop} (H : S C its s) (hu : A.units < cLine) (hm : (a, FnI fd) ∈ its) (h : Q (.bool false) s) : wpAny (model prog w) A (compareOp .Eq (.ref a) (.str x tk)) Q E s := by
  obtain ⟨o, ho, rfl⟩ := H.get hm
  exact eq_fn_str hu ho rfl rfl h
theorem ListI.kit {h : Heap} {o : Obj} (hL : ListI vs o) (ho : h.get? a = some o) : KitAt a "list" h := by obtain ⟨us, n, rfl, _⟩ := hL; exact ⟨_, ho, rfl⟩
theorem TupI.kit {h : Heap} {o : Obj} (hL : TupI vs o) (ho : h.get? a = some o) : KitAt a "tuple" h := by obtain ⟨us, n, rfl, _⟩ := hL; exact ⟨_, ho, rfl⟩
theorem DictI.kit {α : Type} [DecidableEq α] {knd : PySem.KeyKind prog w α} {kvs : List (α × Value)} {ep : Option Nat} {h : Heap} {o : Obj} (hD : DictI knd kvs ep o) (ho : h.get? a = some o) : KitAt a "dict" h := by
  obtain ⟨us, ⟨es, ep', ⟨h1, h2, h3⟩, _⟩, _⟩ := hD; exact ⟨o, ho, h1⟩
theorem FnI.kit {h : Heap} {o : Obj} (hF : FnI fd o) (ho : h.get? a = some o) : KitAt a "function" h := by cases hF; exact ⟨_, ho, rfl⟩
theorem KitV.get {T : String} (k : KitV prog w its v T) (H : S C its s) : ∃ P, KitX K v (.type T) P ∧ P s.heap ∧ v ≠ .builtin "__main__.__loader__#opaque" := by
  cases k with
  | int => exact ⟨_, kitx_int, trivial, nofun⟩
  | str => exact ⟨_, kitx_str, trivial, nofun⟩
  | none => exact ⟨_, kitx_none, trivial, nofun⟩
  | list hm => obtain ⟨o, ho, h⟩ := H.get hm; exact ⟨_, kitx_list, h.kit ho, nofun⟩
  | tup hm => obtain ⟨o, ho, h⟩ := H.get hm; exact ⟨_, kitx_tuple, h.kit ho, nofun⟩
  | dict hm => obtain ⟨o, ho, h⟩ := H.get hm; exact ⟨_, kitx_dict, h.kit ho, nofun⟩
  | fn hm => obtain ⟨o, ho, h⟩ := H.get hm; exact ⟨_, kitx_fn, h.kit ho, nofun⟩
theorem r_isi_one {T T' : String} {b : Bool} {Q : Value → Shared → Prop} (H : S C its s) (hB : Bs prog w K gl C) (k : KitV prog w its v T) (e : kitOne K (.type T) (.type T') = some b) (h : ∀ s', S C its s' → Q (.bool b) s') :
    wpAny (model prog w) A (call (.builtin "isinstance") [v, .type T']) Q E s := by
  obtain ⟨P, Z, hp, hv⟩ := k.get H
  exact kia_one Z (hB.k H) hp e hv fun tk => h _ H.tk
theorem er_types {ts : List String} {us : List Value} (h : us.map er = ts.map .type) : us = ts.map .type := by
  induction ts generalizing us with
  | nil => exact List.map_eq_nil_iff.mp h
  | cons t ts ih =>
    obtain ⟨u, r, rfl, e1, e2⟩ := List.map_eq_cons_iff.mp h
    rw [ih e2]
    cases u <;> simp [er] at e1
    rw [e1]; rfl
theorem r_isi_tup {T : String} {ts : List String} {tp : Addr} {b : Bool} {Q : Value → Shared → Prop} (H : S C its s) (hB : Bs prog w K gl C) (k : KitV prog w its v T) (ht : (tp, TupI (ts.map .type)) ∈ its) (e : kitAny K (.type T) (ts.map .type) = some b) (h : ∀ s', S C its s' → Q (.bool b) s') :
    wpAny (model prog w) A (call (.builtin "isinstance") [v, .ref tp]) Q E s := by
  obtain ⟨P, Z, hp, hv⟩ := k.get H
  obtain ⟨o, ho, us, n, rfl, he⟩ := H.get ht
  have hu := er_types he
  refine kia_tup (its := ts.map .type) Z (hB.k H) hp (dd := Option.none) (n := n) (sl := #[]) (by rw [← hu]; simpa using ho) e hv fun tk => h _ H.tk
/-- keys of a dict, in order -/
noncomputable def KeyIt (d : Addr) (n ep : Nat) (i : Nat) (o : Obj) : Prop := o.cls = .type "dict_keyiterator" ∧ o.data = .fields #[.ref d, .int i 0, .int n 0, .int ep 0]
section
variable {α : Type} [DecidableEq α] {knd : PySem.KeyKind prog w α} {kvs : List (α × Value)} {d it : Addr} {ep : Option Nat}
theorem DictI.atE {n : Nat} {o : Obj} (hD : DictI knd kvs (some n) o) {h : Heap} (ho : h.get? d = some o) : ∃ us, Heap.DictAt knd h d us n ∧ us.map ek = kvs := by
  obtain ⟨us, ⟨es, n', h1, h2, h3, h4, h5⟩, e, hn'⟩ := hD
  obtain ⟨es', he⟩ := hn' n rfl
  rw [h2] at he; cases he
  exact ⟨us, ⟨o, es, ho, h1, h2, h3, h4, h5⟩, e⟩
theorem nx_keys (n : Nat) (hit : it ∉ C.tb) :
    Nx prog w C it kvs.length (fun i v => ∃ k X, kvs[i]? = some (k, X) ∧ knd.is k v = true) (KeyIt d kvs.length n) (fun its => (d, DictI knd kvs (some n)) ∈ its) := by
  refine ⟨fun A its s Q E i hA H hn hi h => ?_, fun A its s Q E hA H hn h => ?_⟩
  · obtain ⟨o, ho, hc, hd⟩ := H.get (.head _)
    obtain ⟨od, hod, hD⟩ := H.get (.tail _ hn)
    obtain ⟨us, hat, e⟩ := hD.atE hod
    have hl : us.length = kvs.length := by rw [← e]; simp
    have hi' : i < us.length := by omega
    refine wpAny_pyNext_dict_item (knd := knd) (kvs := us) ⟨o, ho, hc, by rw [hl]; exact hd⟩ hat (List.getElem?_eq_getElem hi') fun key h' hk ⟨o', ho', hc', hd'⟩ hs => ?_
    refine h key _ ⟨(us[i]'hi').1, er (us[i]'hi').2, ?_, hk⟩ (H.up .head hs ho' ⟨hc', by rw [← hl]; exact hd'⟩)
    rw [← e, List.getElem?_map, List.getElem?_eq_getElem hi']; rfl
  · obtain ⟨o, ho, hc, hd⟩ := H.get (.head _)
    obtain ⟨od, hod, hD⟩ := H.get (.tail _ hn)
    obtain ⟨us, hat, e⟩ := hD.atE hod
    have hl : us.length = kvs.length := by rw [← e]; simp
    exact wpAny_pyNext_dict_end (knd := knd) (kvs := us) hA ⟨o, ho, hc, by rw [hl]; exact hd⟩ hat (by rw [← hl]; simp) fun h' hx => h _ (H.extBut hx hit)
theorem it_keys {n : Nat} {Q : Value → Shared → Prop} (H : S C its s) (hd : (d, DictI knd kvs (some n)) ∈ its) (h : ∀ it s', it ∉ C.tb → S C ((it, KeyIt d kvs.length n 0) :: its) s' → Q (.ref it) s') :
    wpAny (model prog w) A (pyIter (.ref d)) Q E s := by
  obtain ⟨od, hod, hD⟩ := H.get hd
  obtain ⟨us, hat, e⟩ := hD.atE hod
  have hl : us.length = kvs.length := by rw [← e]; simp
  refine wpAny_pyIter_dict (H.sysm hd) hat (h _ _ H.fresh_tb (H.push ⟨rfl, ?_⟩ rfl))
  rw [hl]; rfl
theorem r_keys2 {Q : Value → Shared → Prop} (H : S C its s) (hd : (d, DictI knd kvs ep) ∈ its) (h : ∀ v s', S C ((v, ViewI "dict_keys" d) :: its) s' → Q (.ref v) s') :
    wpAny (model prog w) A (call (.builtin "dict.keys") [.ref d]) Q E s := by
  obtain ⟨o, ho, hD⟩ := H.get hd
  obtain ⟨us, h1, h2⟩ := hD.at ho
  exact call_meetsIn PySem.F.slot_dict_keys h1.typeIs PySem.F.entry_dict_keys (PySem.F.args_dict_keys_1 _) (kdl_meets_keys knd d (H.sysm hd)) ⟨⟨us, h1⟩, h _ _ (H.push (o := { cls := .type "dict_keys", data := .fields #[.ref d] }) (P := ViewI "dict_keys" d) rfl rfl)⟩
end
end
end Mc

namespace Mc
theorem forIn_app {β : Type} : ∀ (kw : List (Str × Value)) (f : Str × Value → β × List (Str × Value) → Sem (ForInStep (β × List (Str × Value)))) (_ : ∀ p ∈ kw, ∀ a b, f p (a, b) = pure (.yield (a, b ++ [p]))) (a : β) (b : List (Str × Value)),
    forIn kw (a, b) f = (pure (a, b ++ kw) : Sem _)
  | [], f, _, a, b => by rw [List.forIn_nil, List.append_nil]
  | p :: r, f, h, a, b => by
    rw [List.forIn_cons, h p (.head _), pure_bind]
    dsimp only
    rw [forIn_app r f (fun q hq => h q (.tail _ hq)), List.append_assoc]; rfl
theorem bind_kw {M : Model} {A : Around} {E : Value → Shared → Prop} {s : Shared} {Q : List (Str × Value) → Shared → Prop} {fd : FuncData} {x n dflt : Value} {kw : List (Str × Value)} {p1 p2 p3 : Pos} {T : Addr} {o : Obj} {k : Nat} {an1 an2 an3 : Option PySem.Expr} {df : List PySem.Expr} {kd : List (Option PySem.Expr)}
  (hp : fd.params = { posonlyargs := [], args := [⟨"self", an1, p1⟩, ⟨"nodes", an2, p2⟩], vararg := none, kwonlyargs := [], kw_defaults := kd, kwarg := some ⟨"kwargs", an3, p3⟩, defaults := df })
  (hd : fd.defaults = .ref T) (ho : s.heap.get? T = some o) (hs : o.data = .seq #[dflt] k) (hk : ∀ p ∈ kw, p.1 ≠ "self" ∧ p.1 ≠ "nodes") (hz : kw.length ≤ 1000)
  (h : wpAny M A (alloc { cls := .type "dict", data := .dict #[] }) (fun d s₁ => wpAny M A (List.foldlM (fun _ p => nsSet d p.1 p.2) PUnit.unit kw) (fun _ s₂ => Q [("self", x), ("nodes", n), ("kwargs", .ref d)] s₂) E s₁) E s) :
  wpAny M A (bindArgs fd ⟨[x, n], kw⟩) Q E s := by
  unfold bindArgs
  rw [hp]
  simp only [List.map_cons, List.map_nil, List.nil_append, List.zip_cons_cons, List.zip_nil_right, List.append_nil, List.length_cons, List.length_nil]
  refine wpAny_bind (wpAny_of_eq (forIn_app kw _ (fun p hp a b => ?_) _ _) ?_)
  · obtain ⟨h1, h2⟩ := hk p hp
    have c : ([Str.ofString "self", Str.ofString "nodes"].contains p.1 || ([] : List Str).contains p.1) = false := by
      rw [Bool.or_eq_false_iff]
      refine ⟨?_, rfl⟩
      rw [List.contains_cons, List.contains_cons, Bool.or_eq_false_iff, Bool.or_eq_false_iff]
      exact ⟨beq_eq_false_iff_ne.mpr h1, beq_eq_false_iff_ne.mpr h2, rfl⟩
    simp only [c, Bool.false_eq_true, if_false, Option.isSome_some, if_true]
  · rw [hd]
    refine wpAny_bind (wpAny_seqItems ho hs ?_)
    have e1 : (Str.ofString "self" == Str.ofString "nodes") = false := by decide +kernel
    have e2 : (Str.ofString "nodes" == Str.ofString "self") = false := by decide +kernel
    simp [e1, e2, List.lookup, List.filter, List.filterMap]
    have hz' : ¬ (sizeLine + 1 < kw.length) := by rw [sizeLine_eq]; omega
    rw [if_neg hz']
    refine wpAny_bind (wpAny_mono h (fun d s₁ h₁ => ?_) fun _ _ e => e)
    rw [← bind_pure_comp]
    exact wpAny_bind (wpAny_mono h₁ (fun _ s₂ h₂ => wpAny_pure h₂) fun _ _ e => e)
section
variable {prog : Program} {w : World} {A : Around} {E : Value → Shared → Prop} {K : Frag} {gl : List (Str × Value)} {C : Cx} {its its' : List Item} {s : Shared} {L a d : Addr} {vs : List Value} {X v : Value} {kvs : List (Str × Value)} {ep : Option Nat} {name : Str}
/-- a name is set in a dict of names -/
theorem r_nsSet {Q : Unit → Shared → Prop} (H : S C its s) (hv : er v = X) (hU : Up d (DictI (sk prog w) kvs ep) (DictI (sk prog w) (stored kvs name X) none) its its') (hz : kvs.length ≤ 900)
    (h : ∀ s', S C its' s' → Q () s') : wpAny (model prog w) A (nsSet d name v) Q E s := by
  subst hv
  obtain ⟨od, hod, us, ⟨es, ep', ⟨h1, h2, h3⟩, h4, h5, h6, h7⟩, h8, _⟩ := H.get hU.mem
  obtain ⟨oc, odi, oda, osl⟩ := od
  dsimp only at h1 h2 h3 h4
  subst h1 h2 h3 h4
  subst h8
  have e : ({ cls := Value.type "dict", dict := none, data := Data.dict es ep', slots := #[] } : Obj) = dictOf es.toList ep' := by simp [dictOf]
  rw [e] at hod
  have hk : KeysOf (sk prog w) es.toList.toArray := by simpa using h5
  unfold nsSet
  refine wpAny_bind (wpAny_bind (wpAny_askSetting (wpAny_pure (wpAny_bind (wpAny_mkText (wpAny_bind (wpAny_loadPart hod ?_)))))))
  have c : (!es.toList.toArray.any (·.key.isStr name) && es.toList.toArray.any (·.refKey)) = false := by
    have : es.toList.toArray.any (·.refKey) = false := by rw [← Array.any_toList]; exact noRef hk
    rw [this, Bool.and_false]
  dsimp only
  rw [aRefKeyMayBeTheName_at, c]
  refine wpAny_updatePart hod ?_
  have ge := Heap.get?_update_self (Obj.putName name (PyData.keyHash w.params name) (.str name s.toks) v) hod (by rw [putName_dict]; rfl)
  rw [putName_dict] at ge
  have el : es.toList.length = us.length := h6.length
  rw [List.length_map] at hz
  refine h _ ?_
  have hsb : Heap.SameBut d s.heap (s.heap.update d (Obj.putName name (PyData.keyHash w.params name) (.str name s.toks) v)) := Heap.SameBut.update ..
  refine H.up hU hsb ge ⟨stored us name v, ⟨_, _, ⟨rfl, rfl, rfl⟩, rfl, ?_, ?_, ?_⟩, stored_ek, nofun⟩
  · exact putL_keys keyHash_is hk
  · simpa using putL_pairs h6 h7
  · exact nodup_stored h7
/-- all of a call's keywords, stored -/
noncomputable def kwKvs (kvs kw : List (Str × Value)) : List (Str × Value) := kw.foldl (fun l p => stored l p.1 (er p.2)) kvs
theorem kwKvs_len : ∀ (kw kvs : List (Str × Value)), (kwKvs kvs kw).length ≤ kvs.length + kw.length
  | [], kvs => Nat.le_refl _
  | p :: r, kvs => by
    have h1 := kwKvs_len r (stored kvs p.1 (er p.2))
    have h2 : (stored kvs p.1 (er p.2)).length ≤ kvs.length + 1 := by unfold stored; split <;> simp
    show (kwKvs (stored kvs p.1 (er p.2)) r).length ≤ _
    rw [List.length_cons]; omega
theorem r_kwFold {Q : Unit → Shared → Prop} (kw kvs : List (Str × Value)) (s : Shared) (hz : kvs.length + kw.length ≤ 900) (H : S C ((d, DictI (sk prog w) kvs none) :: its) s)
    (h : ∀ s', S C ((d, DictI (sk prog w) (kwKvs kvs kw) none) :: its) s' → Q () s') : wpAny (model prog w) A (List.foldlM (fun _ p => nsSet d p.1 p.2) PUnit.unit kw) Q E s := by
  induction kw generalizing kvs s with
  | nil => exact wpAny_pure (h s H)
  | cons p r ih =>
    rw [List.foldlM_cons]
    rw [List.length_cons] at hz
    refine wpAny_bind (r_nsSet (prog := prog) (w := w) H rfl .head (Nat.le_trans (Nat.le_add_right _ _) hz) fun s' H' => ?_)
    refine ih _ s' ?_ H' h
    have h2 : (stored kvs p.1 (er p.2)).length ≤ kvs.length + 1 := by unfold stored; split <;> simp
    exact Nat.le_trans (Nat.add_le_add_right h2 _) (by rw [Nat.add_right_comm]; exact hz)
/-- a call of f(self, nodes, **kwargs) -/
theorem call_kwL {fd : FuncData} {o : Obj} {body : List Stmt} {x n dflt : Value} {kw : List (Str × Value)} {loc : List (Str × Option Value)} {R : Result → Shared → Prop} {f : Addr} {p1 p2 p3 : Pos} {T : Addr} {oT : Obj} {k : Nat} {an1 an2 an3 : Option PySem.Expr} {df : List PySem.Expr} {kd : List (Option PySem.Expr)}
    (H : S C its s) (hB : Bs prog w K gl C) (ho : s.heap.get? f = some o) (hd : o.data = .func fd) (hcd : s.heap.CodeRec fd.code fd.qualname) (hbody : fd.body = .stmts body) {dd uu : Nat} (hA : Rm A (dd + 1) (uu + 3))
    (hp : fd.params = { posonlyargs := [], args := [⟨"self", an1, p1⟩, ⟨"nodes", an2, p2⟩], vararg := none, kwonlyargs := [], kw_defaults := kd, kwarg := some ⟨"kwargs", an3, p3⟩, defaults := df })
    (hdf : fd.defaults = .ref T) (hoT : s.heap.get? T = some oT) (hsT : oT.data = .seq #[dflt] k) (hk : ∀ p ∈ kw, p.1 ≠ "self" ∧ p.1 ≠ "nodes") (hz : kw.length ≤ 800)
    (hcell : (fd.scope.names.all fun y => y.2 != .cell) = true) (hloc : ((["self", "nodes", "kwargs"] : List Str).all fun y => decide (fd.scope.names.lookup y = some .local)) = true)
    (hnd : nodupB (("self" : Str) :: "nodes" :: "kwargs" :: loc.map (·.1)) = true) (hl : (loc.all fun p => p.2.isNone) = true)
    (h : ∀ (d L : Addr) (s' : Shared) (A' : Around) (E' : Value → Shared → Prop), Rm A' dd uu → S C ((L, NsI (("self", some (er x)) :: ("nodes", some (er n)) :: ("kwargs", some (.ref d)) :: loc)) :: (d, DictI (sk prog w) (kwKvs [] kw) none) :: its) s' →
      let env : Env := callEnv fd L f; wpAny (model prog w) A' (execs body env) (fun fl s'' => R (.ok (.ret (match fl with | .ret v => v | _ => .none))) s'') E' s')
    (hco : fd.scope.isCoroutine = false := by rfl) (hgen : fd.scope.isGenerator = false := by rfl) (hkk : fd.scope.kind = .function := by rfl) :
    codeAny (model prog w) A (.call (.ref f) ⟨[x, n], kw⟩) R s := by
  refine codeAny_call_function hA.room ho hd hco hgen hbody hcd (bind_kw hp hdf hoT hsT hk (Nat.le_trans hz (by decide)) ?_)
  refine wpAny_alloc ?_
  have H1 := H.push (o := { cls := .type "dict", data := .dict #[] }) (P := DictI (sk prog w) [] none) ⟨[], ⟨#[], 0, ⟨rfl, rfl, rfl⟩, rfl, (fun e he => by simp at he), .nil, List.nodup_nil⟩, rfl, nofun⟩ rfl (d := s.drawn) (t := s.toks)
  refine r_kwFold (prog := prog) (w := w) kw [] _ (by simp; omega) H1 fun s₁ H2 => ?_
  have hx : ∀ y ∈ ([("self", x), ("nodes", n), ("kwargs", .ref s.heap.objs.size)] : List (Str × Value)), fd.scope.names.lookup y.1 = some .local := fun y hy => by
    have := List.all_eq_true.mp hloc y.1 (by
      rcases List.mem_cons.mp hy with rfl | hy
      · exact .head _
      rcases List.mem_cons.mp hy with rfl | hy
      · exact .tail _ (.head _)
      rcases List.mem_cons.mp hy with rfl | hy
      · exact .tail _ (.tail _ (.head _))
      · cases hy)
    exact of_decide_eq_true this
  refine wpAny_newFunctionEnv (noCell hcell) hx (fun h₁ hns hsb => ⟨?_, codeAny_func (h s.heap.objs.size s₁.heap.objs.size _ _ _ (hA.deeper _) ?_)⟩) hkk
  · obtain ⟨mc, hm, e⟩ := hB.L H2
    have : s₁.heap.NoLimit := ⟨mc, hm, e⟩
    exact this.fresh _ hsb
  · obtain ⟨oL, es, ep, hoL, hdL, hsk, hf⟩ := id hns
    have H3 : S C ((s₁.heap.objs.size, fun _ => True) :: (s.heap.objs.size, DictI (sk prog w) (kwKvs [] kw) none) :: its) ⟨s₁.heap.push { cls := Value.type "frame", data := Data.dict #[] }, s₁.gens, s₁.drawn, s₁.toks, s₁.os⟩ := H2.push (P := fun _ => True) trivial rfl
    have nd := nodupB_iff hnd
    refine S.up (d := s₁.drawn) H3 (P := fun _ => True) .head hsb hoL ⟨es, ep, hdL, hsk, nd, fun p hp => ?_⟩
    rw [hf]
    rw [List.nodup_cons, List.nodup_cons, List.nodup_cons] at nd
    obtain ⟨n1, n2, n3, n4⟩ := nd
    have e12 : (("nodes" : Str) == "self") = false := by decide +kernel
    have e13 : (("kwargs" : Str) == "self") = false := by decide +kernel
    have e23 : (("kwargs" : Str) == "nodes") = false := by decide +kernel
    have e12' : (("self" : Str) == "nodes") = false := by decide +kernel
    have e13' : (("self" : Str) == "kwargs") = false := by decide +kernel
    have e23' : (("nodes" : Str) == "kwargs") = false := by decide +kernel
    rcases List.mem_cons.mp hp with rfl | hp
    · simp [List.lookup, e12, e13, e12', e13']
    rcases List.mem_cons.mp hp with rfl | hp
    · simp [List.lookup, e12, e23, e12', e23']
    rcases List.mem_cons.mp hp with rfl | hp
    · simp [List.lookup, er]
    have hp1 : p.1 ∈ loc.map (·.1) := List.mem_map_of_mem (f := (·.1)) hp
    have q1 : (p.1 == ("self" : Str)) = false := beq_eq_false_iff_ne.mpr fun e => n1 (by rw [← e]; exact .tail _ (.tail _ hp1))
    have q2 : (p.1 == ("nodes" : Str)) = false := beq_eq_false_iff_ne.mpr fun e => n2 (by rw [← e]; exact .tail _ hp1)
    have q3 : (p.1 == ("kwargs" : Str)) = false := beq_eq_false_iff_ne.mpr fun e => n3 (by rw [← e]; exact hp1)
    have hn : p.2 = none := by
      have := List.all_eq_true.mp hl p hp
      simpa using this
    rw [hn]
    simp [List.lookup, q1, q2, q3]
/-- a dict display with written names -/
inductive EkL : List (Value × Value) → List (Str × Value) → Prop
  | nil : EkL [] []
  | cons {k : Str} {t : Tok} {v X : Value} {r r'} : er v = X → EkL r r' → EkL ((.str k t, v) :: r) ((k, X) :: r')
theorem EkL.all {vs : List (Value × Value)} (h : EkL vs kvs) : allStrKeys vs = true ∧ (strPairs vs).map ek = kvs := by
  induction h with
  | nil => exact ⟨rfl, rfl⟩
  | cons e _ ih =>
    refine ⟨?_, ?_⟩
    · show allStrKeys (_ :: _) = true
      simpa [allStrKeys] using ih.1
    · show (strPairs (_ :: _)).map ek = _
      have := ih.2
      simp only [strPairs, List.map_cons, List.filterMap_cons] at this ⊢
      rw [this]
      simp [ek, e]
theorem r_dict {Q : Value → Shared → Prop} {env : Env} {keys : List (Option PySem.Expr)} {values : List PySem.Expr} {pos : Pos} (H : S C its s) (hall : keys.all (·.isSome) = true) (hl : keys.length = values.length) (h0 : keys ≠ []) (hlen : keys.length ≤ 15)
    (h : ∀ (d : Addr) s', S C ((d, DictI (sk prog w) [] none) :: its) s' → wpAny (model prog w) A (evalPairs (pairTrees keys values env pos)) (fun vs s₁ => KdnMade prog w (sk prog w) d Q vs s₁) E s') :
    wpAny (model prog w) A (eval (.Dict keys values pos) env) Q E s := by
  refine wpAny_Dict_walk (knd := sk prog w) hall hl h0 hlen ?_
  exact h s.heap.objs.size _ (H.push (o := { cls := .type "dict", data := .dict #[] }) (P := DictI (sk prog w) [] none) ⟨[], ⟨#[], 0, ⟨rfl, rfl, rfl⟩, rfl, (fun e he => by simp at he), .nil, List.nodup_nil⟩, rfl, nofun⟩ rfl (d := s.drawn) (t := s.toks))
theorem r_dmade {Q : Value → Shared → Prop} {vs : List (Value × Value)} (H : S C its s) (hE : EkL vs kvs) (hn : nodupB (kvs.map (·.1)) = true) (hU : Up d (DictI (sk prog w) [] none) (DictI (sk prog w) kvs none) its its') (h : ∀ s', S C its' s' → Q (.ref d) s') :
    KdnMade prog w (sk prog w) d Q vs s := by
  obtain ⟨h1, h2⟩ := hE.all
  obtain ⟨o, ho, hD⟩ := H.get hU.mem
  obtain ⟨us, h3, h4⟩ := hD.at ho
  have hu : us = [] := by cases us with | nil => rfl | cons _ _ => simp at h4
  subst hu
  refine display_done_str h1 ?_ h3 fun h' hd hs => h _ (S.upD (Q := fun _ _ => True) H hU hd hs h2)
  have := nodupB_iff hn
  rw [← h2, ek_keys] at this
  exact this
theorem r_dict0 {Q : Value → Shared → Prop} {α : Type} [DecidableEq α] (knd : PySem.KeyKind prog w α) {env : Env} {pos : Pos} (H : S C its s) (h : ∀ (d : Addr) s', S C ((d, DictI knd [] none) :: its) s' → Q (.ref d) s') :
    wpAny (model prog w) A (eval (.Dict [] [] pos) env) Q E s :=
  wpAny_Dict_empty (h _ _ (H.push (o := { cls := .type "dict", data := .dict #[] }) (P := DictI knd [] none) ⟨[], ⟨#[], 0, ⟨rfl, rfl, rfl⟩, rfl, (fun e he => by simp at he), .nil, List.nodup_nil⟩, rfl, nofun⟩ rfl (d := s.drawn) (t := s.toks)))
/-- types, written -/
inductive TyL : List Value → List String → Prop
  | nil : TyL [] []
  | cons {T : String} {vs : List Value} {ts : List String} : TyL vs ts → TyL (.type T :: vs) (T :: ts)
theorem TyL.eq {vs : List Value} {ts : List String} (h : TyL vs ts) : vs = ts.map .type := by
  induction h with
  | nil => rfl
  | cons _ ih => rw [ih]; rfl
theorem r_isi_tup2 {T : String} {ts : List String} {tp : Addr} {b : Bool} {vs : List Value} {Q : Value → Shared → Prop} (H : S C its s) (hB : Bs prog w K gl C) (k : KitV prog w its v T) (ht : (tp, TupI vs) ∈ its) (hty : TyL vs ts) (e : kitAny K (.type T) (ts.map .type) = some b) (h : ∀ s', S C its s' → Q (.bool b) s') :
    wpAny (model prog w) A (call (.builtin "isinstance") [v, .ref tp]) Q E s := by
  rw [hty.eq] at ht
  exact r_isi_tup H hB k ht e h
/-- an empty dict is a dict of any kind -/
theorem DictI.empty {α β : Type} [DecidableEq α] [DecidableEq β] {k1 : PySem.KeyKind prog w α} {k2 : PySem.KeyKind prog w β} {ep : Option Nat} {o : Obj} (h : DictI k1 [] ep o) : DictI k2 [] none o := by
  obtain ⟨us, ⟨es, ep', h1, h2, h3, h4, h5⟩, e, _⟩ := h
  have hu : us = [] := by cases us with | nil => rfl | cons _ _ => simp at e
  subst hu
  have he : es.toList = [] := List.length_eq_zero_iff.mp (by rw [h4.length]; rfl)
  have he' : es = #[] := by cases es; simp at he; rw [he]
  subst he'
  exact ⟨[], ⟨#[], ep', h1, h2, (fun e he => by simp at he), .nil, List.nodup_nil⟩, rfl, nofun⟩
theorem S.conv {P P' : Obj → Prop} (H : S C its s) (hU : Up a P P' its its') (hP : ∀ o, P o → P' o) : S C its' s := by
  obtain ⟨o, ho, h⟩ := H.get hU.mem
  have := H.up hU (Heap.SameBut.refl ..) ho (hP o h) (d := s.drawn) (t := s.toks)
  exact this
end
end Mc

namespace Mc
theorem callEnvC_locals {fd : FuncData} {L a : Addr} : (PySem.callEnvC fd L a).locals = L := rfl
theorem lookup_nd : ∀ {l : List (Str × Addr)} {p : Str × Addr}, (l.map (·.1)).Nodup → p ∈ l → l.lookup p.1 = some p.2
  | [], _, _, h => nomatch h
  | q :: r, p, nd, h => by
    rw [List.map_cons, List.nodup_cons] at nd
    rw [List.lookup_cons]
    rcases List.mem_cons.mp h with e | h
    · rw [e, beq_self_eq_true]
    · rw [beq_eq_false_iff_ne.mpr fun e => nd.1 (by rw [← e]; exact List.mem_map_of_mem (f := (·.1)) h)]
      exact lookup_nd nd.2 h
section
variable {prog : Program} {w : World} {A : Around} {E : Value → Shared → Prop} {K : Frag} {gl : List (Str × Value)} {C : Cx} {its its' : List Item} {s : Shared}
theorem S.new_ge (H : S C its s) {a : Addr} (ha : s.heap.objs.size ≤ a) : C.B.get? a = none := by
  cases q : C.B.get? a with
  | none => rfl
  | some o =>
    by_cases h : a ∈ C.tb
    · obtain ⟨o', e⟩ := H.tbs _ h
      exact absurd (Heap.lt_size e) (Nat.not_lt.mpr ha)
    · exact absurd (Heap.lt_size (H.keep _ _ q h)) (Nat.not_lt.mpr ha)
theorem CellI.of {h : Heap} {c : Addr} {v : Option Value} (x : h.IsCell c v) : ∃ o, h.get? c = some o ∧ CellI (v.map er) o := by
  obtain ⟨o, ho, hd⟩ := x
  exact ⟨o, ho, v, hd, rfl⟩
/-- a frame and its cells onto the ledger -/
theorem S.cells {L : Addr} {m cm : Str → Option Value} {cs : List (Str × Addr)} {s₁ : Shared} {loc : List (Str × Option Value)} (H : S C its s) (hL : L = s.heap.objs.size) (x : InCallC s L m cs cm s₁) (hnd : (loc.map (·.1)).Nodup) (hl : ∀ p ∈ loc, (m p.1).map er = p.2)
    (hcs : ∀ p ∈ cs, cs.lookup p.1 = some p.2) : S C ((L, NsI loc) :: (cs.map (fun p => ((p.2, CellI ((cm p.1).map er)) : Item)) ++ its)) s₁ := by
  obtain ⟨⟨h', tk, e⟩, hns, hk, hab⟩ := x.toInCall
  subst e
  have hge : ∀ p ∈ cs, s.heap.objs.size ≤ p.2 := fun p hp => by have := x.above p.1 p.2 hp; rw [← hL]; exact Nat.le_of_lt this
  refine ⟨fun b o q hb => hk b o (H.keep b o q hb), fun p hp => ?_, fun p hp => ?_, ?_, fun a ha => ?_, H.gens, H.os, H.big, fun hm => ?_⟩
  · rcases List.mem_cons.mp hp with rfl | hp
    · obtain ⟨o, es, ep, ho, hd, hsk, hf⟩ := hns
      exact ⟨o, ho, es, ep, hd, hsk, hnd, fun p hp => by rw [hf]; exact hl p hp⟩
    · rcases List.mem_append.mp hp with hp | hp
      · obtain ⟨q, hq, rfl⟩ := List.mem_map.mp hp
        exact CellI.of (x.cell q.1 q.2 (hcs q hq))
      · obtain ⟨o, ho, hP⟩ := H.own p hp
        exact ⟨o, hk _ _ ho, hP⟩
  · rcases List.mem_cons.mp hp with rfl | hp
    · exact .inl (H.new_ge (Nat.le_of_eq hL.symm))
    · rcases List.mem_append.mp hp with hp | hp
      · obtain ⟨q, hq, rfl⟩ := List.mem_map.mp hp
        exact .inl (H.new_ge (hge q hq))
      · exact H.new p hp
  · rw [List.map_cons, List.map_append, List.nodup_cons, List.nodup_append]
    refine ⟨fun hm => ?_, ?_, H.nd, fun a ha b hb e => ?_⟩
    · rcases List.mem_append.mp hm with hm | hm
      · rw [List.map_map] at hm
        obtain ⟨q, hq, e⟩ := List.mem_map.mp hm
        exact absurd (x.above q.1 q.2 hq) (by rw [show q.2 = L from e]; exact Nat.lt_irrefl _)
      · obtain ⟨q, hq, e⟩ := List.mem_map.mp hm
        exact absurd (H.lt hq) (by rw [e, hL]; exact Nat.lt_irrefl _)
    · rw [List.map_map]
      exact List.pairwise_map.mpr x.apart
    · rw [List.map_map] at ha
      obtain ⟨q, hq, rfl⟩ := List.mem_map.mp ha
      obtain ⟨r, hr, rfl⟩ := List.mem_map.mp hb
      exact absurd (H.lt hr) (by rw [← e]; exact Nat.not_lt.mpr (hge q hq))
  · obtain ⟨o, e⟩ := H.tbs a ha
    exact ⟨o, hk _ _ e⟩
  · rcases List.mem_cons.mp hm with e | hm
    · exact absurd (e.trans hL) (Nat.ne_of_lt H.one)
    · rw [List.map_append, List.map_map] at hm
      rcases List.mem_append.mp hm with hm | hm
      · obtain ⟨q, hq, e⟩ := List.mem_map.mp hm
        have h1 := hge q hq
        rw [show q.2 = 1 from e] at h1
        exact absurd H.one (Nat.not_lt.mpr h1)
      · exact H.n1 hm
/-- a call of a function of which some names are cells -/
theorem call_cellL {fd : FuncData} {o : Obj} {body : List Stmt} {args : Args} {binds : List (Str × Value)} {loc : List (Str × Option Value)} {R : Result → Shared → Prop} {f : Addr} (cl : Addr → List Item)
    (H : S C its s) (hB : Bs prog w K gl C) (ho : s.heap.get? f = some o) (hd : o.data = .func fd) (hcd : s.heap.CodeRec fd.code fd.qualname) (hbody : fd.body = .stmts body) {dd uu : Nat} (hA : Rm A (dd + 1) (uu + 3))
    (hbind : BindsTo s fd args binds) (hclo : fd.closure = [])
    (hkind : ∀ n, (binds.all fun y => decide (fd.scope.names.lookup y.1 = some .local) || (decide (fd.scope.names.lookup y.1 = some .cell) && ((cellsFrom n fd.scope.names []).lookup y.1).isSome)) = true)
    (hnd : nodupB (loc.map (·.1)) = true) (hl : ∀ L, loc = loc.map fun p => (p.1, (bindL (PySem.callEnvC fd L f).kindOf binds (fun _ => none) p.1).map er))
    (hcl : ∀ L, cl L = (cellsFrom (L + 1) fd.scope.names []).map fun p => (p.2, CellI ((bindC (PySem.callEnvC fd L f).kindOf binds (fun _ => none) p.1).map er)))
    (hcs : ∀ n, nodupB ((cellsFrom n fd.scope.names []).map (·.1)) = true)
    (h : ∀ (L : Addr) (s' : Shared) (A' : Around) (E' : Value → Shared → Prop), Rm A' dd uu → S C ((L, NsI loc) :: (cl L ++ its)) s' → let env : Env := PySem.callEnvC fd L f; wpAny (model prog w) A' (execs body env) (fun fl s'' => R (.ok (.ret (match fl with | .ret v => v | _ => .none))) s'') E' s')
    (hco : fd.scope.isCoroutine = false := by rfl) (hgen : fd.scope.isGenerator = false := by rfl) (hk : fd.scope.kind = .function := by rfl) :
    codeAny (model prog w) A (.call (.ref f) args) R s := by
  refine codeAny_call_function hA.room ho hd hco hgen hbody hcd (hbind _ _ _ _ ?_)
  rw [hclo]
  refine wpAny_newFunctionEnv_cells hk (fun y hy => ?_) fun env he s₁ x => ?_
  · have := List.all_eq_true.mp (hkind (s.heap.objs.size + 1)) y hy
    rcases Bool.or_eq_true_iff.mp this with q | q
    · exact .inl (of_decide_eq_true q)
    · rw [Bool.and_eq_true] at q
      exact .inr ⟨of_decide_eq_true q.1, q.2⟩
  · subst he
    refine ⟨(hB.L H).keeps x.toInCall.keep, codeAny_func (h s.heap.objs.size s₁ _ _ (hA.deeper _) ?_)⟩
    rw [hcl]
    refine H.cells rfl x (nodupB_iff hnd) (fun p hp => ?_) (fun p hp => ?_)
    · rw [hl s.heap.objs.size] at hp
      obtain ⟨q, _, rfl⟩ := List.mem_map.mp hp
      rfl
    · have nd : ((cellsFrom (s.heap.objs.size + 1) fd.scope.names []).map (·.1)).Nodup := nodupB_iff (hcs _)
      exact lookup_nd nd hp
end
end Mc
namespace Mc
section
variable {prog : Program} {w : World} {A : Around} {E : Value → Shared → Prop} {K : Frag} {gl : List (Str × Value)} {C : Cx} {its its' : List Item} {s : Shared}
/-- texts, tokens erased -/
inductive StL : List Value → List Str → Prop
  | nil : StL [] []
  | cons {x : Str} {vs : List Value} {xs : List Str} : StL vs xs → StL (.str x 0 :: vs) (x :: xs)
theorem StL.are {vs : List Value} {xs : List Str} (h : StL vs xs) : ∀ {us : List Value}, us.map er = vs → StrsAre us xs := by
  induction h with
  | nil => intro us e; cases us with | nil => exact .nil | cons _ _ => simp at e
  | cons h ih =>
    intro us e
    cases us with
    | nil => simp at e
    | cons u us =>
      rw [List.map_cons, List.cons.injEq] at e
      have h1 := e.1
      cases u <;> simp [er] at h1
      subst h1
      exact .cons _ _ (ih e.2)
theorem r_in_strs {l : Addr} {vs : List Value} {ys : List Str} {k : Str} {t : Tok} {b : Bool} {Q : Value → Shared → Prop} (H : S C its s) (hm : (l, ListI vs) ∈ its) (hs : StL vs ys) (hb : (ys.any (· == k)) = b) (h : Q (.bool b) s) :
    wpAny (model prog w) A (compareOp .In (.str k t) (.ref l)) Q E s := by
  obtain ⟨o, ho, hL⟩ := H.get hm
  obtain ⟨us, n, hi, e⟩ := hL.at ho
  subst hb
  have := IsL.list hi
  exact in_list_strs (vs := us.toList) (by simpa using this) (hs.are e) h
end
end Mc
namespace Mc
/-- a word that no line opens -/
noncomputable def Hide (p : Prop) : Prop := p
theorem perm_in {α : Type} {x : α} {A B R R' : List α} (hp : R.Perm (x :: R')) : (A ++ (B ++ R)).Perm (x :: (A ++ (B ++ R'))) :=
  ((hp.append_left B).append_left A).trans ((List.Perm.append_left A List.perm_middle).trans List.perm_middle)
end Mc
namespace Mc
theorem er_er (v : Value) : er (er v) = er v := by cases v <;> rfl
theorem perm_out {α : Type} {x : α} {A B R R' : List α} (hp : R.Perm (x :: R')) : (x :: (A ++ (B ++ R'))).Perm (A ++ (B ++ R)) := (perm_in hp).symm
end Mc
namespace Mc
inductive KitP (prog : Program) (w : World) : (Obj → Prop) → String → Prop
  | list {vs : List Value} : KitP prog w (ListI vs) "list"
  | tup {vs : List Value} : KitP prog w (TupI vs) "tuple"
  | dict {α : Type} [DecidableEq α] {knd : PySem.KeyKind prog w α} {kvs : List (α × Value)} {ep : Option Nat} : KitP prog w (DictI knd kvs ep) "dict"
  | fn {fd : FuncData} : KitP prog w (FnI fd) "function"
theorem KitV.of {prog : Program} {w : World} {its : List Item} {a : Addr} {P : Obj → Prop} {T : String} (hm : (a, P) ∈ its) (k : KitP prog w P T) : KitV prog w its (.ref a) T := by
  cases k with
  | list => exact .list hm
  | tup => exact .tup hm
  | dict => exact .dict hm
  | fn => exact .fn hm
end Mc
namespace Mc
theorem NxT.conv {prog : Program} {w : World} {C : Cx} {it : Addr} {n n' : Nat} {elt elt' : Nat → List Value → Prop} {P : Nat → Obj → Prop} {need need' : List Item → Prop} (N : NxT prog w C it n elt P need) (hn : n = n') (he : ∀ i us, elt i us → elt' i us) (hneed : ∀ its, need' its → need its) : NxT prog w C it n' elt' P need' := by
  subst hn
  exact ⟨fun A its s Q E Y elts k pos i hA H hn hi h => N.next A its s Q E Y elts k pos i hA H (hneed _ hn) hi fun v t us s' e => h v t us s' (he _ _ e), fun A its s Q E hA H hn h => N.stop A its s Q E hA H (hneed _ hn) h⟩
end Mc
namespace Mc
theorem Pk1.appR {p : Item} {r r' : List Item} (h : Pk1 p r r') : ∀ {l : List Item}, Pk1 p (l ++ r) (l ++ r')
  | [] => h
  | _ :: l => .tail (h.appR (l := l))
end Mc

namespace Mc
/-- a list comprehension from its iterator on -/
noncomputable def LcSrc (prog : Program) (w : World) (A : Around) (E : Value → Shared → Prop) (env : Env) (elt iter : PySem.Expr) (x : Str) (px : Pos) (ifs : List PySem.Expr) (scope : Scope) (cl : List (Str × Addr)) (pos : Pos) (use : Option (Value → Sem Unit)) (Q : Value → Shared → Prop) (it : Value) (s₂ : Shared) : Prop :=
  wpAny (model prog w) A (newList []) (fun acc s₃ => wpAny (model prog w) A (newFunctionEnv scope env.globals cl [] env.qual none .none (some env)) (fun cenv s₄ =>
    codeAny (model prog w) A (.compStart (.ListComp elt [⟨.Name x px, iter, ifs, 0⟩] scope pos) 0 it acc { cenv with scope := relabel scope env }) (compPost (model prog w) A E use Q acc cenv.locals) s₄) E s₃) E s₂
section
variable {prog : Program} {w : World} {A : Around} {E : Value → Shared → Prop} {C : Cx} {its : List Item} {s : Shared} {env : Env} {elt iter : PySem.Expr} {x : Str} {px : Pos} {ifs : List PySem.Expr} {scope : Scope} {cl : List (Str × Addr)} {pos : Pos} {Q : Value → Shared → Prop}
theorem lc_eval (hclos : closureFor scope env = pure cl) (hkind : scope.kind = .function) (hnames : ∀ y ∈ scope.names, y.2 = .local → scope.names.lookup y.1 = some .local)
    (h : wpAny (model prog w) A (eval iter env) (fun xv s₁ => wpAny (model prog w) A (pyIter xv) (LcSrc prog w A E env elt iter x px ifs scope cl pos none Q) E s₁) E s)
    (hs : ∀ x, foldedSetIterable iter env x = pure x := by intro _; rfl) : wpAny (model prog w) A (eval (.ListComp elt [⟨.Name x px, iter, ifs, 0⟩] scope pos) env) Q E s := by
  rw [eval_ListComp]
  exact wpAny_comprehension_free (use := none) rfl hs hclos hkind hnames h
theorem lc_assign {y : Str} {py spos : Pos} {QF : Flow → Shared → Prop} (hsw : swapsWith (.ListComp elt [⟨.Name x px, iter, ifs, 0⟩] scope pos) (some (.Name y py)) spos.line env = pure true)
    (hclos : closureFor scope env = pure cl) (hkind : scope.kind = .function) (hnames : ∀ y ∈ scope.names, y.2 = .local → scope.names.lookup y.1 = some .local)
    (h : wpAny (model prog w) A (eval iter env) (fun xv s₁ => wpAny (model prog w) A (pyIter xv) (LcSrc prog w A E env elt iter x px ifs scope cl pos (some (assign (.Name y py) env)) (fun _ s' => QF .next s')) E s₁) E s)
    (hs : ∀ x, foldedSetIterable iter env x = pure x := by intro _; rfl) : wpAny (model prog w) A (exec (.Assign [.Name y py] (.ListComp elt [⟨.Name x px, iter, ifs, 0⟩] scope pos) spos) env) QF E s := by
  rw [exec_Assign_Name_used _ _ _ _ hsw]
  refine wpAny_bind (wpAny_standAt (wpAny_bind ?_))
  show wpAny _ A (do let _ ← comprehension (.ListComp elt [⟨.Name x px, iter, ifs, 0⟩] scope pos) scope env _ (newList []) false (eval iter env) (some (assign (.Name y py) env))) _ _ s
  exact wpAny_bind (wpAny_mono (wpAny_comprehension_free (use := some (assign (.Name y py) env)) (Q := fun _ s' => QF .next s') rfl hs hclos hkind hnames h) (fun _ s' hq => wpAny_pure (wpAny_pure hq)) fun _ _ e => e)
theorem lc_go {use : Option (Value → Sem Unit)} {it : Addr} {n : Nat} {eltP : Nat → Value → Prop} {P : Nat → Obj → Prop} {need : List Item → Prop} (N : Nx prog w C it n eltP P need) (hA : A.handled = none) (Inv : Nat → List Value → List Item → Prop) (hneed : ∀ i ys l p q, Inv i ys l → need (p :: q :: l))
    (hcell : ∀ y ∈ scope.names, y.2 ≠ .cell) (hkind : scope.kind = .function) (hx : scope.names.lookup x = some .local) (hz : n ≤ 100000) (hself : ∀ (Q' : Value → Shared → Prop) (E' : Value → Shared → Prop) its' s', S C ((it, P 0) :: its') s' → Q' (.ref it) s' → wpAny (model prog w) A (pyIter (.ref it)) Q' E' s')
    (h0 : Inv 0 [] its) (H : S C ((it, P 0) :: its) s)
    (turn : ∀ i v ys l cf D s₁ (E' : Value → Shared → Prop), i < n → eltP i v → Inv i ys l → ys.length ≤ i → S C ((cf, NsI [(x, some (er v))]) :: (D, ListI ys) :: (it, P (i + 1)) :: l) s₁ →
      wpAny (model prog w) A (forIn ifs true fun c r => if r = true then do let ok ← isTrue c (compEnvC scope cl cf env) (eval c (compEnvC scope cl cf env)); pure (ForInStep.yield ok) else pure (ForInStep.yield r))
        (fun ok s₃ => if ok = true then wpAny (model prog w) A (eval elt (compEnvC scope cl cf env)) (fun y s₄ => Hide (∃ l', Inv (i + 1) (ys ++ [er y]) l' ∧ S C ((cf, NsI [(x, some (er v))]) :: (D, ListI ys) :: (it, P (i + 1)) :: l') s₄)) E' s₃
          else Hide (∃ l', Inv (i + 1) ys l' ∧ S C ((cf, NsI [(x, some (er v))]) :: (D, ListI ys) :: (it, P (i + 1)) :: l') s₃)) E' s₁)
    (done : ∀ ys l cf X D s₁, Inv n ys l → ys.length ≤ n → cf ∉ C.tb → S C ((cf, NsI [(x, X)]) :: (D, ListI ys) :: l) s₁ → compPost (model prog w) A E use Q (.ref D) cf (.ok .next) s₁) :
    LcSrc prog w A E env elt iter x px ifs scope cl pos use Q (.ref it) s := by
  unfold LcSrc
  refine wpAny_newObj_type ?_
  have H1 := H.push (o := { cls := .type "list", data := .seq #[] }) (P := ListI []) (d := s.drawn) (t := s.toks) ⟨#[], 0, rfl, rfl⟩ rfl
  generalize hs1 : (⟨s.heap.push { cls := .type "list", data := .seq #[] }, s.gens, s.drawn, s.toks, s.os⟩ : Shared) = s1 at H1
  generalize hD : s.heap.objs.size = D at *
  have hcf := H1.fresh_tb
  refine wpAny_newFunctionEnv hcell (by intro y hy; simp at hy) (fun h₁ hns hsb => ?_) hkind
  have H2 := H1.push (o := { cls := .type "dict", data := .dict #[] }) (P := fun _ => True) (d := s1.drawn) (t := s1.toks) trivial rfl
  obtain ⟨oL, es, ep, hoL, hdL, hsk, hf⟩ := id hns
  have H3 : S C ((s1.heap.objs.size, NsI [(x, none)]) :: (D, ListI []) :: (it, P 0) :: its) ⟨h₁, s1.gens, s1.drawn, s1.toks + 0, s1.os⟩ :=
    S.up (d := s1.drawn) H2 (P := fun _ => True) .head hsb hoL ⟨es, ep, hdL, hsk, by simp, fun p hp => by
      rw [List.mem_singleton] at hp
      subst hp
      rw [hf]; rfl⟩
  generalize s1.heap.objs.size = cf at *
  have hloop : codeAny (model prog w) A (.compLoop (.ListComp elt [⟨.Name x px, iter, ifs, 0⟩] scope pos) 0 (.ref it) (.ref D) (compEnvC scope cl cf env)) (compPost (model prog w) A E use Q (.ref D) cf) ⟨h₁, s1.gens, s1.drawn, s1.toks + 0, s1.os⟩ := by
    refine codeAny_compLoop_tests (fun m s => ∃ i ys l X, m = n - i ∧ i ≤ n ∧ ys.length ≤ i ∧ Inv i ys l ∧ S C ((cf, NsI [(x, X)]) :: (D, ListI ys) :: (it, P i) :: l) s) (fun m s₀ ⟨i, ys, l, X, hm, hi, hyl, hI, Hs⟩ => ?_) n ⟨0, [], its, none, rfl, Nat.zero_le _, Nat.le_refl _, h0, H3⟩
    by_cases hlt : i < n
    · have Hp : S C ((it, P i) :: (cf, NsI [(x, X)]) :: (D, ListI ys) :: l) s₀ := Hs.perm (by
        refine (List.Perm.cons _ (List.Perm.swap _ _ _)).trans ?_
        exact List.Perm.swap _ _ _)
      refine N.next A ((cf, NsI [(x, X)]) :: (D, ListI ys) :: l) s₀ _ _ i hA Hp (hneed i ys l _ _ hI) hlt fun v s' he H' => ?_
      have H'' : S C ((cf, NsI [(x, X)]) :: (D, ListI ys) :: (it, P (i + 1)) :: l) s' := H'.perm (by
        refine (List.Perm.swap _ _ _).trans (List.Perm.cons _ (List.Perm.swap _ _ _)))
      refine wpAny_assign_Name (st_local (L := cf) H'' rfl (lookup_relabel_local hx) (by simp [compEnvC, relabel, hkind]) rfl (.head _) .head .head fun s'' H3 => ?_)
      refine wpAny_mono (turn i v ys l cf D s'' _ hlt he hI hyl H3) (fun ok s₃ h₃ => ?_) fun _ _ e => e
      split
      · rename_i hok
        rw [if_pos hok] at h₃
        refine wpAny_mono h₃ (fun y s₄ ⟨l', hI', H4⟩ => ?_) fun _ _ e => e
        exact r_append H4 rfl (.tail .head) (by omega) fun s5 H5 => ⟨n - (i + 1), by omega, i + 1, ys ++ [er y], l', _, rfl, hlt, by simp; omega, hI', H5⟩
      · rename_i hok
        rw [if_neg hok] at h₃
        obtain ⟨l', hI', H4⟩ := h₃
        exact ⟨n - (i + 1), by omega, i + 1, ys, l', _, rfl, hlt, by omega, hI', H4⟩
    · have hin : i = n := by omega
      subst hin
      have Hp : S C ((it, P i) :: (cf, NsI [(x, X)]) :: (D, ListI ys) :: l) s₀ := Hs.perm (by
        refine (List.Perm.cons _ (List.Perm.swap _ _ _)).trans ?_
        exact List.Perm.swap _ _ _)
      exact N.stop A ((cf, NsI [(x, X)]) :: (D, ListI ys) :: l) s₀ _ _ hA Hp (hneed i ys l _ _ hI) fun s' H' => done ys l cf X D s' hI hyl hcf H'
  refine codeAny_compStart_list hloop (hself _ _ ((cf, NsI [(x, none)]) :: (D, ListI []) :: its) _ (H3.perm ?_) hloop)
  refine (List.Perm.cons _ (List.Perm.swap _ _ _)).trans ?_
  exact List.Perm.swap _ _ _
/-- a comprehension's list as a value -/
theorem post_none {cf : Addr} {acc : Value} {m : List (Str × Option Value)} (H : S C ((cf, NsI m) :: its) s) (hcf : cf ∉ C.tb) (h : ∀ s', S C its s' → Q acc s') : compPost (model prog w) A E none Q acc cf (.ok .next) s := by
  obtain ⟨o, ho, es, ep, hd, hsk, hnd, hp⟩ := H.get (.head _)
  exact ⟨_, ⟨o, es, ep, ho, hd, hsk, fun _ => rfl⟩, fun h' hs => h _ (H.extBut hs.extBut hcf)⟩
end
end Mc
namespace Mc
theorem compEnv_locals {scope : Scope} {cl : List (Str × Addr)} {c : Addr} {env : Env} : (compEnvC scope cl c env).locals = c := rfl
section
variable {prog : Program} {w : World} {A : Around} {E : Value → Shared → Prop} {C : Cx} {its : List Item} {s : Shared} {Q : Value → Shared → Prop} {it : Addr}
theorem self_list {l : Addr} {i : Nat} (H : S C ((it, ListIt l i) :: its) s) (h : Q (.ref it) s) : wpAny (model prog w) A (pyIter (.ref it)) Q E s := by
  obtain ⟨o, ho, hc, hd⟩ := H.get (.head _)
  exact wpAny_pyIter_listiter (i := i) (l := l) ⟨o, ho, hc, hd⟩ h
theorem self_range {a : Int} {n i : Nat} (H : S C ((it, RangeIt a n i) :: its) s) (h : Q (.ref it) s) : wpAny (model prog w) A (pyIter (.ref it)) Q E s := by
  obtain ⟨o, ho, rfl⟩ := H.get (.head _)
  exact wpAny_pyIter_rangeiter ho h
/-- tuples, laid in order -/
noncomputable def tupIts (ts : List Addr) (ds : List (List Value)) : List Item := (ts.zip ds).map fun p => (p.1, TupI p.2)
theorem tupIts_snoc {ts : List Addr} {ds : List (List Value)} {t : Addr} {d : List Value} (h : ts.length = ds.length) : tupIts (ts ++ [t]) (ds ++ [d]) = tupIts ts ds ++ [(t, TupI d)] := by
  unfold tupIts
  rw [List.zip_append h, List.map_append]; rfl
end
end Mc

namespace Mc
/-- a table of codes -/
noncomputable def TabI (ps : Array Value) (o : Obj) : Prop := o = tabObj ps
/-- a code object -/
noncomputable def CodeI (q : Str) (o : Obj) : Prop := ∃ vs t, o.data = .fields vs ∧ vs[1]? = some (.str q t)
section
variable {prog : Program} {w : World} {A : Around} {E : Value → Shared → Prop} {K : Frag} {gl : List (Str × Value)} {C : Cx} {its its' : List Item} {s : Shared}
theorem S.codeRec (H : S C its s) {c : Addr} {q : Str} (hm : (c, CodeI q) ∈ its) : s.heap.CodeRec (.ref c) q := by
  obtain ⟨o, ho, vs, t, hd, hv⟩ := H.get hm
  exact ⟨c, o, vs, t, rfl, ho, hd, hv⟩
/-- a def within a function -/
theorem r_nest {P c : Addr} {ps : Array Value} {name qual : Str} {params : Arguments} {body : List Stmt} {scope : Scope} {pos : Pos} {firstLine : Nat} {clos : List (Str × Addr)} {env : Env} {mg mb : Str → Option Value} {p : Program} {loose : List Str} {mean : ExcName → Option Value} {Q : Value → Shared → Prop}
    (H : S C ((P, TabI ps) :: its) s) (hB : Bs prog w K gl C) (T : Top p loose mean mg mb C.B) (D : CodeHd C.B c P) (hc : c ∉ C.tb) (hbm : ∀ a ∈ C.tb, ∃ ps', C.B.get? a = some (tabObj ps')) (hcd : env.code = .ref c) (hge : env.globals = mainGlobals) (ht : TriplesOk ps.toList) (hnf : codeAmong pos ps.toList = none)
    (hcl : closureFor scope env = pure clos) (hPt : P ∈ C.tb)
    (h : ∀ f c' ctv doc pm s', S C ((f, FnI (fnX name qual params body scope clos .none .none doc pm none (.ref c') ctv)) :: (c', CodeI qual) :: (P, TabI (ps ++ #[rawInt pos.line, rawInt pos.col, .ref c'])) :: its) s' → Q (.ref f) s') :
    wpAny (model prog w) A (makeFunction name qual params (.stmts body) scope env [] [] [] pos firstLine) Q E s := by
  have hP : s.heap.get? P = some (tabObj ps) := by
    obtain ⟨o, ho, e⟩ := H.own _ (.head _)
    rw [ho, show o = tabObj ps from e]
  have hgs : s.heap.Ns mainGlobals mg := Bs.ns H T.g fun h => (hB.lo _ h).1 rfl
  have hgP : mainGlobals ≠ P := fun q => (hB.lo P hPt).1 q.symm
  obtain ⟨bm, ob, b1, b2, b3, b4, b5, b6⟩ := T.bmain
  have hbT : bm ∉ C.tb := fun q => by
    obtain ⟨ps', e⟩ := hbm _ q
    rw [e] at b3; cases b3; cases b4
  have hbP : bm ≠ P := fun q => hbT (q ▸ hPt)
  have hbG : bm ≠ mainGlobals := fun q => by
    obtain ⟨o, es, ep, e, hd, _⟩ := T.g
    rw [q, e] at b3; cases b3; rw [hd] at b6; cases b6
  have D' : CodeHd s.heap c P := by
    obtain ⟨o, vs, file, tf, flags, tg, inF, text, tt, e, r⟩ := D
    exact ⟨o, vs, file, tf, flags, tg, inF, text, tt, H.keep _ _ e hc, r⟩
  refine makeFunction_K (mg := mg) hcl hge hgs hcd D' hP ht hnf hgP ⟨bm, ob, b1, b2, hbG, hbP, H.keep _ _ b3 hbT, b4, b5, b6⟩ fun c' ctv doc h' tk hx hge hlt hrec htb => ?_
  obtain ⟨c₂, oc, vs, t, e2, hoc, hd, hv⟩ := hrec
  cases e2
  have hsz : s.heap.objs.size ≤ h'.objs.size := Nat.le_trans hge (Nat.le_of_lt hlt)
  refine h h'.objs.size c' ctv doc ((mg "__name__").getD .none) _ ⟨fun b o q hb => ?_, fun q hq => ?_, fun q hq => ?_, ?_, fun a ha => ?_, H.gens, H.os, H.big, fun hm => ?_⟩
  · exact Heap.get?_push_of_some _ (hx b o (fun e => hb (e ▸ hPt)) (H.keep b o q hb))
  · rcases List.mem_cons.mp hq with rfl | hq
    · exact ⟨_, Heap.get?_push_size _ rfl, rfl⟩
    rcases List.mem_cons.mp hq with rfl | hq
    · exact ⟨oc, Heap.get?_push_of_some _ hoc, vs, t, hd, hv⟩
    rcases List.mem_cons.mp hq with rfl | hq
    · exact ⟨_, Heap.get?_push_of_some _ htb, rfl⟩
    · obtain ⟨o, ho, hO⟩ := H.own q (.tail _ hq)
      have nd := H.nd
      rw [List.map_cons, List.nodup_cons] at nd
      exact ⟨o, Heap.get?_push_of_some _ (hx _ _ (fun e => nd.1 (by rw [← e]; exact List.mem_map_of_mem (f := (·.1)) hq)) ho), hO⟩
  · rcases List.mem_cons.mp hq with rfl | hq
    · exact .inl (H.new_ge hsz)
    rcases List.mem_cons.mp hq with rfl | hq
    · exact .inl (H.new_ge hge)
    rcases List.mem_cons.mp hq with rfl | hq
    · exact .inr hPt
    · exact H.new q (.tail _ hq)
  · rw [List.map_cons, List.map_cons, List.nodup_cons, List.nodup_cons]
    refine ⟨fun hm => ?_, fun hm => ?_, H.nd⟩
    · rcases List.mem_cons.mp hm with e | hm
      · exact absurd hlt (by rw [show c' = h'.objs.size from e.symm]; exact Nat.lt_irrefl _)
      · obtain ⟨q, hq, e⟩ := List.mem_map.mp hm
        have h1 : q.1 < s.heap.objs.size := by
          rcases List.mem_cons.mp hq with rfl | hq
          · exact Heap.lt_size hP
          · exact H.lt (.tail _ hq)
        rw [show q.1 = h'.objs.size from e] at h1
        exact absurd h1 (Nat.not_lt.mpr hsz)
    · obtain ⟨q, hq, e⟩ := List.mem_map.mp hm
      have h1 : q.1 < s.heap.objs.size := by
        rcases List.mem_cons.mp hq with rfl | hq
        · exact Heap.lt_size hP
        · exact H.lt (.tail _ hq)
      rw [show q.1 = c' from e] at h1
      exact absurd h1 (Nat.not_lt.mpr hge)
  · by_cases e : a = P
    · subst e; exact ⟨_, Heap.get?_push_of_some _ htb⟩
    · obtain ⟨o, ho⟩ := H.tbs a ha
      exact ⟨o, Heap.get?_push_of_some _ (hx _ _ e ho)⟩
  · have h1 := H.one
    rcases List.mem_cons.mp hm with e | hm
    · have : (1 : Nat) = h'.objs.size := e
      omega
    rcases List.mem_cons.mp hm with e | hm
    · have : (1 : Nat) = c' := e
      omega
    · exact H.n1 hm
end
end Mc

namespace Mc
section
variable {prog : Program} {w : World} {A : Around} {E : Value → Shared → Prop} {K : Frag} {gl : List (Str × Value)} {C : Cx} {its its' : List Item} {s : Shared}
theorem r_slice {value slice : Expr} {l : Addr} {items : Array Value} {vl vu : Value} {lo hi : Option Int} {Q : Value → Shared → Prop}
    (H : S C its s) (hl : s.heap.IsList l items) (pl : IsPart vl lo) (pu : IsPart vu hi) (hsz : items.size ≤ sizeLine)
    (hs : subscripted slice false (.ref l) (.ref s.heap.objs.size) = operate [.ref s.heap.objs.size, .ref l] (getItem (.ref l) (.ref s.heap.objs.size)))
    (ht : ∀ r, letTemporaryGo value (.ref l) r = pure ())
    (h : ∀ D s', S C ((D, ListI ((slicePick items lo hi none).toList.map er)) :: its) s' → Q (.ref D) s') :
    wpAny (model prog w) A (subscriptTail value slice (.ref l) (.ref s.heap.objs.size)) Q E { s with heap := s.heap.push { cls := .type "slice", data := .fields #[vl, vu, .none] } } := by
  refine subscriptTail_ops (Heap.IsList.typeIs (s := { s with heap := s.heap.push { cls := .type "slice", data := .fields #[vl, vu, .none] } }) (hl.push _)) list_getitem_lookup
    (wpAny_getItem_list_slice (hl.push _) (Heap.IsSliceOf.new ..) pl pu .none (by simp) ?_ hsz) hs ht
  have H1 := (H.push (o := { cls := .type "slice", data := .fields #[vl, vu, .none] }) (P := fun _ => True) (d := s.drawn) (t := s.toks) trivial rfl).tail
  exact h _ _ (H1.push (o := { cls := .type "list", data := .seq (slicePick items lo hi none) }) (P := ListI ((slicePick items lo hi none).toList.map er)) (d := s.drawn) (t := s.toks) ⟨_, _, rfl, rfl⟩ rfl)
theorem r_slice_to {value slice : Expr} {l : Addr} {vs : List Value} {b : Nat} {u : Tok} {Q : Value → Shared → Prop}
    (H : S C its s) (hm : (l, ListI vs) ∈ its) (hz : vs.length ≤ 1000)
    (hs : subscripted slice false (.ref l) (.ref s.heap.objs.size) = operate [.ref s.heap.objs.size, .ref l] (getItem (.ref l) (.ref s.heap.objs.size)))
    (ht : ∀ r, letTemporaryGo value (.ref l) r = pure ())
    (h : ∀ D s', S C ((D, ListI (vs.take b)) :: its) s' → Q (.ref D) s') :
    wpAny (model prog w) A (subscriptTail value slice (.ref l) (.ref s.heap.objs.size)) Q E { s with heap := s.heap.push { cls := .type "slice", data := .fields #[.none, .int b u, .none] } } := by
  obtain ⟨o, ho, hL⟩ := H.get hm
  obtain ⟨us, n, hi, e⟩ := hL.at ho
  have hl : us.size ≤ 1000 := by rw [← e] at hz; simpa using hz
  refine r_slice H (IsL.list hi) .none (.int _ _) (by rw [sizeLine_eq]; omega) hs ht fun D s' H' => h D s' ?_
  rw [slicePick_upto'] at H'
  simpa [List.map_take, e] using H'
/-- a heap that keeps all, with one more object -/
theorem S.grow1 (H : S C its s) {h' : Heap} {P : Obj → Prop} {a : Addr} {o : Obj} (hk : ∀ b o, s.heap.get? b = some o → h'.get? b = some o) (ha : s.heap.objs.size ≤ a) (ho : h'.get? a = some o) (hP : P o) {d : Drawn} {t : Nat} :
    S C ((a, P) :: its) ⟨h', s.gens, d, t, s.os⟩ := by
  refine ⟨fun b o' e h => hk _ _ (H.keep b o' e h), fun p hp => ?_, fun p hp => ?_, ?_, fun b hb => ?_, H.gens, H.os, H.big, fun hm => ?_⟩
  · rcases List.mem_cons.mp hp with rfl | hp
    · exact ⟨o, ho, hP⟩
    · obtain ⟨o', e, h⟩ := H.own p hp
      exact ⟨o', hk _ _ e, h⟩
  · rcases List.mem_cons.mp hp with rfl | hp
    · exact .inl (H.new_ge ha)
    · exact H.new p hp
  · rw [List.map_cons, List.nodup_cons]
    refine ⟨fun hm => ?_, H.nd⟩
    obtain ⟨q, hq, e⟩ := List.mem_map.mp hm
    have h1 := H.lt hq
    rw [show q.1 = a from e] at h1
    exact absurd h1 (Nat.not_lt.mpr ha)
  · obtain ⟨o', e⟩ := H.tbs b hb
    exact ⟨o', hk _ _ e⟩
  · rcases List.mem_cons.mp hm with e | hm
    · have h1 := H.one
      have e : (1 : Nat) = a := e
      omega
    · exact H.n1 hm
/-- list of a list -/
theorem r_list_list {l : Addr} {vs : List Value} {Q : Value → Shared → Prop} (H : S C its s) (hm : (l, ListI vs) ∈ its) (hz : vs.length ≤ 1000)
    (h : ∀ D s', S C ((D, ListI vs) :: its) s' → Q (.ref D) s') : wpAny (model prog w) A (call (.type "list") [.ref l]) Q E s := by
  obtain ⟨o, ho, us, n, rfl, e⟩ := H.get hm
  have hl : us.size ≤ 1000 := by rw [← e] at hz; simpa using hz
  refine call_list_seq (hsz := by rw [sizeLine_eq]; omega) l (.inl rfl) ho rfl rfl fun h' c' hk hD => ?_
  exact h _ _ (H.grow1 hk (Nat.le_refl _) hD ⟨us, c', rfl, e⟩)
theorem er_ints {vs : List Value} {ns : List Int} (h : IntsAre vs ns) : vs.map er = ns.map fun n => .int n 0 := ints_er h
/-- the first numbers of a list handed in -/
theorem r_slice_given {value slice : Expr} {l : Addr} {vs : List Value} {ns : List Int} {b : Nat} {u : Tok} {Q : Value → Shared → Prop}
    (H : S C its s) (hb : C.B.IsList l vs.toArray) (hi : IntsAre vs ns) (hn : l ∉ C.tb) (hz : ns.length ≤ 1000)
    (hs : subscripted slice false (.ref l) (.ref s.heap.objs.size) = operate [.ref s.heap.objs.size, .ref l] (getItem (.ref l) (.ref s.heap.objs.size)))
    (ht : ∀ r, letTemporaryGo value (.ref l) r = pure ())
    (h : ∀ D s', S C ((D, ListI ((ns.take b).map fun n => .int n 0)) :: its) s' → Q (.ref D) s') :
    wpAny (model prog w) A (subscriptTail value slice (.ref l) (.ref s.heap.objs.size)) Q E { s with heap := s.heap.push { cls := .type "slice", data := .fields #[.none, .int b u, .none] } } := by
  obtain ⟨o, ho, r⟩ := hb
  have hl : vs.length ≤ 1000 := by rw [hi.length]; exact hz
  refine r_slice H (items := vs.toArray) ⟨o, H.keep _ _ ho hn, r⟩ .none (.int _ _) (by rw [sizeLine_eq]; simp; omega) hs ht fun D s' H' => h D s' ?_
  rw [slicePick_upto'] at H'
  have e := er_ints hi
  simpa [List.map_take, e] using H'
end
end Mc

namespace Mc
/- data: what a value of the ledger means -/
mutual
noncomputable def Den (its : List Item) : PyData → Value → Prop
  | .none, v => v = .none
  | .bool b, v => v = .bool b
  | .int i, v => v = .int i 0
  | .str x, v => v = .str x 0
  | .list ds, v => ∃ a vs, v = .ref a ∧ (a, ListI vs) ∈ its ∧ Dens its ds vs
  | .tuple ds, v => ∃ a vs, v = .ref a ∧ (a, TupI vs) ∈ its ∧ Dens its ds vs
  | .dict _, _ => False
noncomputable def Dens (its : List Item) : List PyData → List Value → Prop
  | [], vs => vs = []
  | d :: ds, vs => ∃ v r, vs = v :: r ∧ Den its d v ∧ Dens its ds r
end
mutual
theorem Den.mono {its its' : List Item} (h : ∀ p ∈ its, p ∈ its') : ∀ (d : PyData) {v : Value}, Den its d v → Den its' d v
  | .none, _, e => e
  | .bool _, _, e => e
  | .int _, _, e => e
  | .str _, _, e => e
  | .list ds, _, ⟨a, vs, e, hm, hd⟩ => ⟨a, vs, e, h _ hm, Dens.mono h ds hd⟩
  | .tuple ds, _, ⟨a, vs, e, hm, hd⟩ => ⟨a, vs, e, h _ hm, Dens.mono h ds hd⟩
  | .dict _, _, e => e.elim
theorem Dens.mono {its its' : List Item} (h : ∀ p ∈ its, p ∈ its') : ∀ (ds : List PyData) {vs : List Value}, Dens its ds vs → Dens its' ds vs
  | [], _, e => e
  | d :: ds, _, ⟨v, r, e, hd, hr⟩ => ⟨v, r, e, Den.mono h d hd, Dens.mono h ds hr⟩
end
theorem er_none {v : Value} (h : er v = .none) : v = .none := by cases v <;> simp [er] at h <;> rfl
theorem er_bool {v : Value} {b : Bool} (h : er v = .bool b) : v = .bool b := by cases v <;> simp [er] at h; rw [h]
theorem er_int {v : Value} {i : Int} (h : er v = .int i 0) : ∃ t, v = .int i t := by cases v <;> simp [er] at h; exact ⟨_, by rw [h]⟩
theorem er_str {v : Value} {x : Str} (h : er v = .str x 0) : ∃ t, v = .str x t := by cases v <;> simp [er] at h; exact ⟨_, by rw [h]⟩
theorem er_ref {v : Value} {a : Addr} (h : er v = .ref a) : v = .ref a := by cases v <;> simp [er] at h; rw [h]
section
variable {prog : Program} {w : World} {A : Around} {E : Value → Shared → Prop} {K : Frag} {gl : List (Str × Value)} {C : Cx} {its its' : List Item} {s : Shared}
mutual
theorem Den.reads (H : S C its s) : ∀ (d : PyData) {X v : Value}, Den its d X → er v = X → ∃ as, Reads s.heap v d as
  | .none, _, _, e, h => by subst e; rw [er_none h]; exact ⟨_, .none⟩
  | .bool _, _, _, e, h => by subst e; rw [er_bool h]; exact ⟨_, .bool _⟩
  | .int _, _, _, e, h => by subst e; obtain ⟨t, rfl⟩ := er_int h; exact ⟨_, .int _ _⟩
  | .str _, _, _, e, h => by subst e; obtain ⟨t, rfl⟩ := er_str h; exact ⟨_, .str _ _⟩
  | .list ds, _, _, ⟨a, vs, e, hm, hd⟩, h => by
    subst e; rw [er_ref h]
    obtain ⟨o, ho, us, n, rfl, eu⟩ := H.get hm
    obtain ⟨as, ha⟩ := Dens.reads H ds hd eu
    exact ⟨_, .list ho rfl rfl ha⟩
  | .tuple ds, _, _, ⟨a, vs, e, hm, hd⟩, h => by
    subst e; rw [er_ref h]
    obtain ⟨o, ho, us, n, rfl, eu⟩ := H.get hm
    obtain ⟨as, ha⟩ := Dens.reads H ds hd eu
    exact ⟨_, .tuple ho rfl rfl ha⟩
  | .dict _, _, _, e, _ => e.elim
theorem Dens.reads (H : S C its s) : ∀ (ds : List PyData) {Xs us : List Value}, Dens its ds Xs → us.map er = Xs → ∃ as, ReadsAll s.heap us ds as
  | [], _, us, e, h => by
    subst e
    rw [List.map_eq_nil_iff] at h
    subst h
    exact ⟨_, .nil⟩
  | d :: ds, _, us, ⟨v, r, e, hd, hr⟩, h => by
    subst e
    cases us with
    | nil => simp at h
    | cons u us =>
      rw [List.map_cons, List.cons.injEq] at h
      obtain ⟨as, ha⟩ := Den.reads H d hd h.1
      obtain ⟨bs, hb⟩ := Dens.reads H ds hr h.2
      exact ⟨_, .cons ha hb⟩
end
/- data without truth values and dicts -/
mutual
noncomputable def okD : PyData → Bool
  | .none => true
  | .bool _ => false
  | .int _ => true
  | .str x => PySem.PyData.strOk x
  | .list ds => okDs ds
  | .tuple ds => okDs ds
  | .dict _ => false
noncomputable def okDs : List PyData → Bool
  | [] => true
  | d :: ds => okD d && okDs ds
end
mutual
theorem okD.lay : ∀ d : PyData, okD d = true → d.canLay0 = true
  | .none, _ => by simp [PyData.canLay0]
  | .bool _, h => by simp [okD] at h
  | .int _, _ => by simp [PyData.canLay0]
  | .str x, h => by simpa [okD, PyData.canLay0] using h
  | .list ds, h => by rw [okD] at h; rw [PyData.canLay0]; exact okDs.lay ds h
  | .tuple ds, h => by rw [okD] at h; rw [PyData.canLay0]; exact okDs.lay ds h
  | .dict _, h => by simp [okD] at h
theorem okDs.lay : ∀ ds : List PyData, okDs ds = true → PyData.canLayAll0 ds = true
  | [], _ => by simp [PyData.canLayAll0]
  | d :: ds, h => by
    rw [okDs, Bool.and_eq_true] at h
    rw [PyData.canLayAll0, Bool.and_eq_true]
    exact ⟨okD.lay d h.1, okDs.lay ds h.2⟩
end
mutual
theorem okD.eqv : ∀ d e : PyData, okD d = true → okD e = true → (PyData.eqv d e = true ↔ d = e)
  | .list xs, .list ys, h, k => by
    rw [okD] at h k
    rw [PyData.eqv, okDs.eqv xs ys h k, PyData.list.injEq]
  | .tuple xs, .tuple ys, h, k => by
    rw [okD] at h k
    rw [PyData.eqv, okDs.eqv xs ys h k, PyData.tuple.injEq]
  | .bool _, _, h, _ => by simp [okD] at h
  | .dict _, _, h, _ => by simp [okD] at h
  | .none, .bool _, _, k | .int _, .bool _, _, k | .str _, .bool _, _, k | .list _, .bool _, _, k | .tuple _, .bool _, _, k => by simp [okD] at k
  | .none, .dict _, _, k | .int _, .dict _, _, k | .str _, .dict _, _, k | .list _, .dict _, _, k | .tuple _, .dict _, _, k => by simp [okD] at k
  | .none, .none, _, _ | .int _, .int _, _, _ | .str _, .str _, _, _ => by simp [PyData.eqv]
  | .none, .int _, _, _ | .none, .str _, _, _ | .none, .list _, _, _ | .none, .tuple _, _, _ => by simp [PyData.eqv]
  | .int _, .none, _, _ | .int _, .str _, _, _ | .int _, .list _, _, _ | .int _, .tuple _, _, _ => by simp [PyData.eqv]
  | .str _, .none, _, _ | .str _, .int _, _, _ | .str _, .list _, _, _ | .str _, .tuple _, _, _ => by simp [PyData.eqv]
  | .list _, .none, _, _ | .list _, .int _, _, _ | .list _, .str _, _, _ | .list _, .tuple _, _, _ => by simp [PyData.eqv]
  | .tuple _, .none, _, _ | .tuple _, .int _, _, _ | .tuple _, .str _, _, _ | .tuple _, .list _, _, _ => by simp [PyData.eqv]
theorem okDs.eqv : ∀ xs ys : List PyData, okDs xs = true → okDs ys = true → (PyData.eqvAll xs ys = true ↔ xs = ys)
  | [], [], _, _ => by simp [PyData.eqvAll]
  | [], _ :: _, _, _ => by simp [PyData.eqvAll]
  | _ :: _, [], _, _ => by simp [PyData.eqvAll]
  | x :: xs, y :: ys, h, k => by
    rw [okDs, Bool.and_eq_true] at h k
    rw [PyData.eqvAll, Bool.and_eq_true, okD.eqv x y h.1 k.1, okDs.eqv xs ys h.2 k.2, List.cons.injEq]
end
/-- data that is compared: no truth values, no dicts, not deep -/
structure OkD (d : PyData) : Prop where
  ok : okD d = true
  dp : d.depth ≤ 64
theorem OkD.shaped {d : PyData} (h : OkD d) : PySem.SeqAt.shaped d = true := by
  unfold PySem.SeqAt.shaped
  rw [okD.lay d h.ok, decide_eq_true h.dp]; rfl
theorem r_eq_data {a b X Y : Value} {d e : PyData} {Q : Value → Shared → Prop} (H : S C its s) (hu : A.units + 64 < cLine) (ha : er a = X) (hb : er b = Y) (h1 : Den its d X) (h2 : Den its e Y) (o1 : OkD d) (o2 : OkD e)
    (hy : d = e → Q (.bool true) s) (hn : d ≠ e → Q (.bool false) s) : wpAny (model prog w) A (compareOp .Eq a b) Q E s := by
  obtain ⟨as, ra⟩ := Den.reads H d h1 ha
  obtain ⟨bs, rb⟩ := Den.reads H e h2 hb
  refine eq_dataH ra rb o1.shaped o2.shaped hu ?_
  have q := okD.eqv d e o1.ok o2.ok
  cases z : PyData.eqv d e with
  | true => exact hy (q.mp z)
  | false => exact hn fun x => by rw [q.mpr x] at z; cases z
theorem r_ne_data {a b X Y : Value} {d e : PyData} {Q : Value → Shared → Prop} (H : S C its s) (hu : A.units + 64 < cLine) (ha : er a = X) (hb : er b = Y) (h1 : Den its d X) (h2 : Den its e Y) (o1 : OkD d) (o2 : OkD e)
    (hy : d = e → Q (.bool false) s) (hn : d ≠ e → Q (.bool true) s) : wpAny (model prog w) A (compareOp .NotEq a b) Q E s := by
  obtain ⟨as, ra⟩ := Den.reads H d h1 ha
  obtain ⟨bs, rb⟩ := Den.reads H e h2 hb
  refine ne_dataH ra rb o1.shaped o2.shaped hu ?_
  have q := okD.eqv d e o1.ok o2.ok
  cases z : PyData.eqv d e with
  | true => exact hy (q.mp z)
  | false => exact hn fun x => by rw [q.mpr x] at z; cases z
theorem any_eqv {ds : List PyData} {e : PyData} (h : okDs ds = true) (k : okD e = true) : ds.any (fun y => PyData.eqv y e) = true ↔ e ∈ ds := by
  induction ds with
  | nil => simp
  | cons d ds ih =>
    rw [okDs, Bool.and_eq_true] at h
    rw [List.any_cons, Bool.or_eq_true, okD.eqv d e h.1 k, ih h.2, List.mem_cons]
    constructor
    · rintro (h | h)
      · exact .inl h.symm
      · exact .inr h
    · rintro (h | h)
      · exact .inl h.symm
      · exact .inr h
theorem r_notIn_data {a x X : Value} {l : Addr} {ds : List PyData} {e : PyData} {Q : Value → Shared → Prop} (H : S C its s) (hu : A.units + 66 < cLine) (hx : er x = X) (h1 : Den its (.list ds) (.ref l)) (h2 : Den its e X) (o1 : OkD (.list ds)) (o2 : OkD e)
    (hy : e ∈ ds → Q (.bool false) s) (hn : e ∉ ds → Q (.bool true) s) : wpAny (model prog w) A (compareOp .NotIn x (.ref l)) Q E s := by
  obtain ⟨as, ra⟩ := Den.reads H _ h1 (v := .ref l) rfl
  obtain ⟨bs, rb⟩ := Den.reads H e h2 hx
  have k1 : okDs ds = true := by have := o1.ok; rwa [okD] at this
  refine PySem.SeqAt.notIn_list_reads ra rb (okDs.lay ds k1) (okD.lay e o2.ok) (by have h1 := o2.dp; have := Nat.min_le_right (PyData.depthAll ds) e.depth; omega) ?_
  have q := any_eqv (e := e) k1 o2.ok
  cases z : ds.any (fun y => PyData.eqv y e) with
  | true => exact hy (q.mp z)
  | false => exact hn fun x => by rw [q.mpr x] at z; cases z
end
end Mc

namespace Mc
section
variable {prog : Program} {w : World} {A : Around} {E : Value → Shared → Prop} {K : Frag} {gl : List (Str × Value)} {C : Cx} {its its' : List Item} {s : Shared} {it : Addr}
/-- an iterator of several objects whose things are new tuples, taken apart -/
structure NxZ (prog : Program) (w : World) (C : Cx) (it : Addr) (n : Nat) (elt : Nat → List Value → Prop) (P : Nat → List Item) (need : List Item → Prop) : Prop where
  next : ∀ (A : Around) its s (Q E : Value → Shared → Prop) (Y : Shared → Prop) (elts : List PySem.Expr) (k : Nat) (pos : Pos) i, A.handled = none → S C (P i ++ its) s → need its → i < n →
    (∀ t us s', elt i us → S C (P (i + 1) ++ its) s' → s'.heap.IsTuple t us.toArray → Q (.ref t) s') →
    wpAny (model prog w) A (pyNext (.ref it)) (fun r s₁ => match r with | none => Y s₁ | some v => wpAny (model prog w) A (letOwnedTupleGo (.Tuple elts k pos) (.ref it) v) (fun _ s₂ => Q v s₂) E s₁) E s
  stop : ∀ (A : Around) its s (Q : Option Value → Shared → Prop) (E : Value → Shared → Prop), A.handled = none → S C (P n ++ its) s → need its →
    (∀ s', S C its s' → Q none s') → wpAny (model prog w) A (pyNext (.ref it)) Q E s
noncomputable def TurnEndZ (C : Cx) (P : List Item) (Inv : List Item → Prop) (R : Result → Shared → Prop) (f : Flow) (s : Shared) : Prop := match f with
  | .next => ∃ l, Inv l ∧ S C (P ++ l) s
  | .cont => ∃ l, Inv l ∧ S C (P ++ l) s
  | .brk => R (.ok .next) s
  | .ret v => R (.ok (.ret v)) s
noncomputable def ZipI (TI TO : Addr) (o : Obj) : Prop := o = { cls := .type "zip", data := .fields #[.none, .bool false, .bool false, .ref TI, .ref TO] }
noncomputable def PairI (a b : Value) (o : Obj) : Prop := o = { cls := .type "tuple", data := .seq #[a, b] }
noncomputable def zipP (z TI TO i1 i2 l1 l2 : Addr) (i : Nat) : List Item := [(z, ZipI TI TO), (TO, fun o => ∃ a b, PairI a b o), (i1, ListIt l1 i), (i2, ListIt l2 i), (TI, PairI (.ref i1) (.ref i2))]

/-- xs + ys -/
theorem r_add_lists {l1 l2 : Addr} {xs ys : List Value} {Q : Value → Shared → Prop} (H : S C its s) (h1 : (l1, ListI xs) ∈ its) (h2 : (l2, ListI ys) ∈ its) (hz : xs.length + ys.length ≤ 1000000)
    (h : ∀ D s', S C ((D, ListI (xs ++ ys)) :: its) s' → Q (.ref D) s') : wpAny (model prog w) A (binaryOp .Add (.ref l1) (.ref l2)) Q E s := by
  obtain ⟨ol1, hol1, hL1⟩ := H.get h1
  obtain ⟨us1, n1, hi1, e1⟩ := hL1.at hol1
  obtain ⟨ol2, hol2, hL2⟩ := H.get h2
  obtain ⟨us2, n2, hi2, e2⟩ := hL2.at hol2
  have k1 := len_er e1
  have k2 := len_er e2
  refine PySem.P.add_list hi1 hi2 (h _ _ (H.push (P := ListI (xs ++ ys)) ⟨_, _, rfl, ?_⟩ rfl)) (by rw [sizeLine_eq]; omega)
  rw [Array.toList_append, List.map_append, e1, e2]
/-- reversed(xs) -/
noncomputable def RevI (l : Addr) (i : Int) (o : Obj) : Prop := o.cls = .type "list_reverseiterator" ∧ o.data = .fields #[.ref l, rawInt i]
end
end Mc

namespace Mc
section
variable {prog : Program} {w : World} {A : Around} {E : Value → Shared → Prop} {K : Frag} {gl : List (Str × Value)} {C : Cx} {its its' : List Item} {s : Shared} {it : Addr}
/-- an iterator that runs code of its own: St i, what it owns at its i-th thing; Fin, what is left of it -/
structure Nz (prog : Program) (w : World) (C : Cx) (it : Addr) (d u : Nat) (n : Nat) (elt : Nat → Value → Prop) (St : Nat → List Item → Prop) (Fin : List Item → Prop) : Prop where
  next : ∀ (A : Around) its fr s (Q : Option Value → Shared → Prop) (E : Value → Shared → Prop) i, Rm A d u → St i its → S C (its ++ fr) s → i < n →
    (∀ v its' s', elt i v → St (i + 1) its' → S C (its' ++ fr) s' → Q (some v) s') → wpAny (model prog w) A (pyNext (.ref it)) Q E s
  stop : ∀ (A : Around) its fr s (Q : Option Value → Shared → Prop) (E : Value → Shared → Prop), Rm A d u → St n its → S C (its ++ fr) s →
    (∀ its' s', Fin its' → S C (its' ++ fr) s' → Q none s') → wpAny (model prog w) A (pyNext (.ref it)) Q E s
theorem r_slice_to2 {value slice : PySem.Expr} {l n : Addr} {vs : List Value} {b : Nat} {u : Tok} {Q : Value → Shared → Prop} {s₁ : Shared} {d : Drawn} {t : Nat}
    (H : S C its s) (hm : (l, ListI vs) ∈ its) (hz : vs.length ≤ 1000) (e : s₁ = ⟨s.heap.push { cls := .type "slice", data := .fields #[.none, .int b u, .none] }, s.gens, d, t, s.os⟩) (en : n = s.heap.objs.size)
    (hs : subscripted slice false (.ref l) (.ref n) = operate [.ref n, .ref l] (getItem (.ref l) (.ref n)))
    (ht : ∀ r, letTemporaryGo value (.ref l) r = pure ())
    (h : ∀ D s', S C ((D, ListI (vs.take b)) :: its) s' → Q (.ref D) s') :
    wpAny (model prog w) A (subscriptTail value slice (.ref l) (.ref n)) Q E s₁ := by
  subst e en
  exact r_slice_to (s := ⟨s.heap, s.gens, d, t, s.os⟩) H.tk hm hz hs ht h
end
end Mc

namespace Mc
section
variable {prog : Program} {w : World} {K : Frag} {gl : List (Str × Value)} {C : Cx} {its : List Item} {s : Shared} {A : Around} {E : Value → Shared → Prop}
end
end Mc

namespace Mc
section
variable {prog : Program} {w : World} {A : Around} {C : Cx} {its : List Item} {s : Shared} {it : Addr}
theorem TurnEnd.any {P : Obj → Prop} {Inv : List Item → Prop} {R : Result → Shared → Prop} {f : Flow} (h : TurnEnd C it P Inv (fun _ _ => False) f s) : TurnEnd C it P Inv R f s := by
  cases f <;> first | exact h | exact h.elim
/-- a cut whose post is a variable for the walk -/
theorem cut1 {β : Type} {M : Model} {t : Sem β} {Q : β → Shared → Prop} {E : Value → Shared → Prop} (P : β → Shared → Prop) (h1 : ∀ QC : β → Shared → Prop, (∀ a s, P a s → QC a s) → wpAny M A t QC E s) (h2 : ∀ a s, P a s → Q a s) : wpAny M A t Q E s :=
  wpAny_mono (h1 P fun _ _ h => h) h2 fun _ _ h => h
/-- loops that no break and no return leaves; the turn's post is a variable for the walk -/
theorem for_nx1 {env : Env} {n : Nat} {elt : Nat → Value → Prop} {P : Nat → Obj → Prop} {need : List Item → Prop} {R : Result → Shared → Prop} {x : Str} {p : Pos} {body orelse : List Stmt}
    (N : Nx prog w C it n elt P need) (hA : A.handled = none) (Inv : Nat → List Item → Prop) (hneed : ∀ i l, Inv i l → need l) (h0 : Inv 0 its) (H : S C ((it, P 0) :: its) s)
    (turn : ∀ i v l s₁ (E' : Value → Shared → Prop), i < n → elt i v → Inv i l → S C ((it, P (i + 1)) :: l) s₁ →
      ∀ QI : Flow → Shared → Prop, (∀ f s, TurnEnd C it (P (i + 1)) (Inv (i + 1)) (fun _ _ => False) f s → QI f s) →
      wpAny (model prog w) A (storeName env x v) (fun _ s₂ => wpAny (model prog w) A (execs body env) QI E' s₂) E' s₁)
    (done : ∀ l s₁ (E' : Value → Shared → Prop), Inv n l → S C l s₁ → wpAny (model prog w) A (execs orelse env) (fun f s₃ => R (.ok f) s₃) E' s₁) :
    codeAny (model prog w) A (.forLoop (.Name x p) (.ref it) body orelse env) R s :=
  for_nx N hA Inv hneed h0 H (fun i v l s₁ E' hi he hI H' => turn i v l s₁ E' hi he hI H' _ fun _ _ h => h.any) done
theorem for_nxT1 {env : Env} {n : Nat} {elt : Nat → List Value → Prop} {P : Nat → Obj → Prop} {need : List Item → Prop} {R : Result → Shared → Prop} {elts : List PySem.Expr} {k : Nat} {p : Pos} {body orelse : List Stmt}
    (N : NxT prog w C it n elt P need) (hA : A.handled = none) (hlen : ∀ i us, elt i us → (assignEach elts env).length = us.length) (hst : List.findIdx? (fun x => x.1) (assignEach elts env) = none)
    (Inv : Nat → List Item → Prop) (hneed : ∀ i l, Inv i l → need l) (h0 : Inv 0 its) (H : S C ((it, P 0) :: its) s)
    (turn : ∀ i us l s₁ (E' : Value → Shared → Prop), i < n → elt i us → Inv i l → S C ((it, P (i + 1)) :: l) s₁ →
      ∀ QI : Flow → Shared → Prop, (∀ f s, TurnEnd C it (P (i + 1)) (Inv (i + 1)) (fun _ _ => False) f s → QI f s) →
      wpAny (model prog w) A (assignInOrder (List.map (fun x => x.2) (assignEach elts env)) us) (fun _ s₂ => wpAny (model prog w) A (execs body env) QI E' s₂) E' s₁)
    (done : ∀ l s₁ (E' : Value → Shared → Prop), Inv n l → S C l s₁ → wpAny (model prog w) A (execs orelse env) (fun f s₃ => R (.ok f) s₃) E' s₁) :
    codeAny (model prog w) A (.forLoop (.Tuple elts k p) (.ref it) body orelse env) R s :=
  for_nxT N hA hlen hst Inv hneed h0 H (fun i us l s₁ E' hi he hI H' => turn i us l s₁ E' hi he hI H' _ fun _ _ h => h.any) done
/-- a comprehension without tests; the turn's post is a variable for the walk -/
theorem lc_go1 {E : Value → Shared → Prop} {env : Env} {elt iter : PySem.Expr} {x : Str} {px : Pos} {scope : Scope} {cl : List (Str × Addr)} {pos : Pos} {Q : Value → Shared → Prop} {use : Option (Value → Sem Unit)} {n : Nat} {eltP : Nat → Value → Prop} {P : Nat → Obj → Prop} {need : List Item → Prop} (N : Nx prog w C it n eltP P need) (hA : A.handled = none) (Inv : Nat → List Value → List Item → Prop) (hneed : ∀ i ys l p q, Inv i ys l → need (p :: q :: l))
    (hcell : ∀ y ∈ scope.names, y.2 ≠ .cell) (hkind : scope.kind = .function) (hx : scope.names.lookup x = some .local) (hz : n ≤ 100000) (hself : ∀ (Q' : Value → Shared → Prop) (E' : Value → Shared → Prop) its' s', S C ((it, P 0) :: its') s' → Q' (.ref it) s' → wpAny (model prog w) A (pyIter (.ref it)) Q' E' s')
    (h0 : Inv 0 [] its) (H : S C ((it, P 0) :: its) s)
    (turn : ∀ i v ys l cf D s₁ (E' : Value → Shared → Prop), i < n → eltP i v → Inv i ys l → ys.length ≤ i → S C ((cf, NsI [(x, some (er v))]) :: (D, ListI ys) :: (it, P (i + 1)) :: l) s₁ →
      ∀ QI : Value → Shared → Prop, (∀ y s₄ l', Inv (i + 1) (ys ++ [er y]) l' → S C ((cf, NsI [(x, some (er v))]) :: (D, ListI ys) :: (it, P (i + 1)) :: l') s₄ → QI y s₄) →
      wpAny (model prog w) A (eval elt (compEnvC scope cl cf env)) QI E' s₁)
    (done : ∀ ys l cf X D s₁, Inv n ys l → ys.length ≤ n → cf ∉ C.tb → S C ((cf, NsI [(x, X)]) :: (D, ListI ys) :: l) s₁ → compPost (model prog w) A E use Q (.ref D) cf (.ok .next) s₁) :
    LcSrc prog w A E env elt iter x px [] scope cl pos use Q (.ref it) s :=
  lc_go N hA Inv hneed hcell hkind hx hz hself h0 H (fun i v ys l cf D s₁ E' hi he hI hy H' => wpAny_tests_nil (by
    rw [if_pos rfl]
    exact turn i v ys l cf D s₁ E' hi he hI hy H' _ fun y s₄ l' hI' H4 => ⟨l', hI', H4⟩)) done
end
end Mc

namespace Mc
section
variable {prog : Program} {w : World} {A : Around} {E : Value → Shared → Prop} {s : Shared}
theorem put_new {d : Addr} {kvs : List (Str × Value)} {k : Str} {key v : Value} {Q : Unit → Shared → Prop} (hkey : (sk prog w).is k key = true) (hm : s.heap.DictOf (sk prog w) d kvs) (hnew : k ∉ kvs.map (·.1))
    (hQ : ∀ h', h'.DictOf (sk prog w) d (kvs ++ [(k, v)]) → Heap.SameBut d s.heap h' → Q () { s with heap := h' }) (hsz : kvs.length ≤ sizeLine) :
    wpAny (model prog w) A (do
      let i ← dictFind d key ((sk prog w).hash k)
      if i.isSome = true then do
        rule "dict.merge.duplicate-key"
        let x ← newExc (.type "KeyError") [key]
        raiseNew x
        dictPut d ((sk prog w).hash k) key v
      else dictPut d ((sk prog w).hash k) key v) Q E s := by
  obtain ⟨o, es, ep, ho, hc, hd, hk, hp, hn⟩ := id hm
  have hes : es.size ≤ sizeLine := by
    have e1 := hp.length
    have e2 : es.toList.length = es.size := by simp
    omega
  have hidx : (es.findIdx? fun e => (sk prog w).is k e.key) = none := by
    have h1 : (es.findIdx? fun e => (sk prog w).is k e.key) = kvs.findIdx? fun kv => decide (kv.1 = k) := by
      rw [← hp.findIdx k]; obtain ⟨l⟩ := es; simp
    rw [h1, List.findIdx?_eq_none_iff]
    intro x hx
    exact decide_eq_false fun e => hnew (e ▸ List.mem_map_of_mem (f := (·.1)) hx)
  refine wpAny_bind (wpAny_dictFind_of hkey ho hd hk ?_)
  rw [hidx]
  simp only [Option.isSome_none, Bool.false_eq_true, if_false]
  unfold dictPut
  refine wpAny_bind (wpAny_dictFind_of hkey ho hd hk ?_)
  rw [hidx]
  refine wpAny_updateDictKeys (hz := hes) ho hd (hQ _ ⟨_, _, ep + 1, Heap.get?_update_self _ ho (Obj.isFreed_of_dict (Obj.data_mapDictKeys hd _)),
      hc.mapDictKeys _, Obj.data_mapDictKeys hd _, hk.push hkey _, ?_, ?_⟩ (Heap.SameBut.update ..))
  · have := hp.append hkey ((sk prog w).hash k) v
    obtain ⟨l⟩ := es
    simpa using this
  · rw [List.map_append, List.nodup_append]
    refine ⟨hn, by simp, ?_⟩
    intro a ha b hb
    simp only [List.map_cons, List.map_nil, List.mem_singleton] at hb
    subst hb
    exact fun e => hnew (e ▸ ha)
theorem merge_new {d o : Addr} {more : List (Str × Value)} {Q : Unit → Shared → Prop} (hdo : d ≠ o) (hoS : (o == sysModules) = false)
    (hd : s.heap.DictOf (sk prog w) d []) (ho : s.heap.DictOf (sk prog w) o more) (hsz : more.length ≤ 1000)
    (hQ : ∀ h', h'.DictOf (sk prog w) d more → h'.DictOf (sk prog w) o more → Heap.SameBut d s.heap h' → Q () { s with heap := h' }) :
    wpAny (model prog w) A (mergeMapping d (.ref o) true) Q E s := by
  obtain ⟨od, esd, epd, hod, hcd, hdd, hkd, hpd, hnd⟩ := id hd
  obtain ⟨oo, eso, epo, hoo, hco, hdo', hko, hpo, hno⟩ := id ho
  have hlen : more.length = eso.size := by rw [← hpo.length]; simp
  have hemp : esd = #[] := by
    have := hpd.length
    exact Array.toList_eq_nil_iff.mp (List.length_eq_zero_iff.mp (by simpa using this))
  unfold mergeMapping
  refine wpAny_bind (wpAny_isInstance ho.typeIs isSubtype_dict_dict ?_)
  simp only [if_true]
  refine wpAny_bind (wpAny_specialOf ho.typeIs PySem.F.slot_dict_iter.lookup ?_)
  refine wpAny_bind (wpAny_pure ?_)
  simp only [beq_self_eq_true]
  rw [hoS]
  simp only [Bool.false_eq_true, if_false]
  refine wpAny_bind (wpAny_dictEntries hod hdd ?_)
  rw [hemp]
  simp only [Array.isEmpty_empty, if_true]
  refine wpAny_bind (wpAny_dictEntries hoo hdo' ?_)
  have hstr : ∀ e ∈ eso, ∃ k t, e.key = .str k t ∧ e.hash = (sk prog w).hash k := fun e he => by
    obtain ⟨k, hk, hh⟩ := hko e he
    obtain ⟨t, ht⟩ := Value.isStrOf_shape hk
    exact ⟨k, t, ht, hh⟩
  refine wpAny_bind (wpAny_of_eq (a := PUnit.unit) ?_ ?_)
  · rw [← Array.forIn_toList]
    refine forIn_yield_id _ fun e he c => ?_
    obtain ⟨k, t, hk, _⟩ := hstr e (Array.mem_toList_iff.mp he)
    rw [hk]
  refine wpAny_bind (wpAny_dictEntries hoo hdo' ?_)
  refine wpAny_bind (wpAny_dictEpoch hoo hdo' ?_)
  refine wpAny_bind ?_
  refine wpAny_forIn_list _
      (fun rest _ s' => ∃ h' i, s' = { s with heap := h' } ∧ rest = List.range' i (eso.size - i) ∧ i ≤ eso.size ∧ h'.DictOf (sk prog w) d (more.take i) ∧ h'.get? o = some oo ∧ Heap.SameBut d s.heap h')
      _ ?_ ?_ _ _ ⟨s.heap, 0, rfl, by rw [List.range_eq_range']; simp, Nat.zero_le _, by simpa using hd, hoo, Heap.SameBut.refl _ _⟩
  · rintro x rest b s' ⟨h', i, rfl, hr, hi, hd', hoo', hs'⟩
    have hlt : i < eso.size := by
      rcases Nat.lt_or_ge i eso.size with h | h
      · exact h
      · rw [Nat.sub_eq_zero_of_le h] at hr; simp at hr
    obtain ⟨rfl, hrest⟩ : x = i ∧ rest = List.range' (i + 1) (eso.size - (i + 1)) := by
      have e : eso.size - i = (eso.size - (i + 1)) + 1 := by omega
      rw [e, List.range'_succ] at hr
      injection hr with h1 h2
      exact ⟨h1, h2⟩
    refine wpAny_bind (wpAny_dictEntries hoo' hdo' ?_)
    rw [Array.getElem?_eq_getElem hlt]
    have hxm : x < more.length := by rw [hlen]; exact hlt
    obtain ⟨kv, hkv⟩ : ∃ kv, more[x]? = some kv := ⟨more[x]'hxm, List.getElem?_eq_getElem _⟩
    obtain ⟨k, v⟩ := kv
    obtain ⟨hkey, hval⟩ := hpo.get? (e := eso[x]) (by simp [hlt]) hkv
    obtain ⟨k', hkey', hhash⟩ := hko eso[x] (Array.getElem_mem hlt)
    obtain rfl : k' = k := (sk prog w).inj _ _ _ hkey' hkey
    dsimp only
    rw [hhash, hval]
    have hstep : more.take (x + 1) = more.take x ++ [(k', v)] := by rw [List.take_add_one, hkv]; rfl
    have hnew : k' ∉ (more.take x).map (·.1) := fun hm => by
      have hn2 := hno
      rw [← List.take_append_drop (x + 1) more, hstep, List.map_append, List.map_append, List.nodup_append] at hn2
      have := (List.nodup_append.mp hn2.1).2.2 k' hm k' (by simp)
      exact this rfl
    refine wpAny_bind (wpAny_holding (put_new (s := ⟨h', s.gens, s.drawn, s.toks, s.os⟩) hkey hd' hnew (fun h'' hd'' hs'' => ?_) (by rw [List.length_take, sizeLine_eq]; omega)))
    have hoo'' : h''.get? o = some oo := (hs''.2 o (Ne.symm hdo)).trans hoo'
    refine wpAny_bind (wpAny_dictEpoch hoo'' hdo' ?_)
    rw [if_neg (by simp)]
    exact wpAny_pure ⟨h'', x + 1, rfl, hrest, hlt, by rw [hstep]; exact hd'', hoo'', hs'.trans hs''⟩
  · rintro b s' ⟨h', i, rfl, hr, hi, hd', hoo', hs'⟩
    have hin : i = eso.size := by
      rcases Nat.lt_or_ge i eso.size with h | h
      · have e : eso.size - i = (eso.size - (i + 1)) + 1 := by omega
        rw [e, List.range'_succ] at hr; exact nomatch hr
      · exact Nat.le_antisymm hi h
    refine wpAny_pure (hQ h' ?_ ⟨oo, eso, epo, hoo', hco, hdo', hko, hpo, hno⟩ hs')
    rw [hin, ← hlen, List.take_length] at hd'; exact hd'
theorem keywordsIn_str {f : Value} {d : Addr} {kvs : List (Str × Value)} {Q : List (Str × Value) → Shared → Prop} (hd : s.heap.DictOf (sk prog w) d kvs) (h : Q kvs s) :
    wpAny (model prog w) A (keywordsIn f d) Q E s := by
  obtain ⟨o, es, ep, ho, hc, hdat, hk, hp, hn⟩ := id hd
  unfold keywordsIn
  refine wpAny_bind (wpAny_dictEntries ho hdat ?_)
  refine wpAny_bind ?_
  rw [← Array.forIn_toList]
  refine wpAny_forIn_list _ (fun rest b s' => s' = s ∧ ∃ done more, kvs = done ++ more ∧ b = done ∧ Pairs (sk prog w) rest more) _ ?_ ?_ _ _ ⟨rfl, [], kvs, rfl, rfl, hp⟩
  · rintro e rest b s' ⟨rfl, done, more, rfl, rfl, hp'⟩
    cases hp' with
    | cons hk hv hp' =>
      rename_i kv kvs
      obtain ⟨t, ht⟩ := Value.isStrOf_shape hk
      rw [ht]
      exact wpAny_pure ⟨rfl, b ++ [kv], kvs, by simp, by rw [hv], hp'⟩
  · rintro b s' ⟨rfl, done, more, rfl, rfl, hp'⟩
    cases hp'
    rw [List.append_nil] at h
    exact wpAny_pure h
theorem kwloop {merge : Value → Sem Unit} {group : List (Str × Sem Value) → Sem Unit} {k : Value → Sem Unit} {t : Sem Value} {Q : Unit → Shared → Prop} (hg : group [] = (pure () : Sem Unit))
    (h : wpAny (model prog w) A t (fun v s₁ => wpAny (model prog w) A ((merge v : Sem Unit).onRaise k) Q E s₁) E s) :
    wpAny (model prog w) A (do
      let g ← forIn [((none : Option Str), t)] ([] : List (Str × Sem Value)) fun x g =>
        match x with
        | (name, x) => match name with
          | some n => pure (ForInStep.yield (g ++ [(n, x)]))
          | none => do
            group g
            let v ← x
            (merge v : Sem Unit).onRaise k
            pure (ForInStep.yield [])
      group g) Q E s := by
  rw [List.forIn_cons]
  refine wpAny_bind (wpAny_bind ?_)
  dsimp only
  rw [hg]
  refine wpAny_bind (wpAny_pure (wpAny_bind ?_))
  refine wpAny_mono h (fun v s₁ h₁ => ?_) fun _ _ x => x
  refine wpAny_bind (wpAny_mono h₁ (fun _ s₂ h₂ => ?_) fun _ _ x => x)
  refine wpAny_pure ?_
  dsimp only
  rw [List.forIn_nil]
  refine wpAny_pure ?_
  rw [hg]
  exact wpAny_pure h₂
theorem evalArgs_ss {f : Value} {t : Sem Value} {Q : Args → Shared → Prop}
    (h : wpAny (model prog w) A t (fun v s₁ => ∃ c kvs, v = .ref c ∧ s₁.heap.DictOf (sk prog w) s.heap.objs.size [] ∧ s.heap.objs.size ≠ c ∧ (c == sysModules) = false ∧ s₁.heap.DictOf (sk prog w) c kvs ∧ kvs.length ≤ 1000 ∧
       ∀ h', h'.DictOf (sk prog w) s.heap.objs.size kvs → Heap.SameBut s.heap.objs.size s₁.heap h' → Q ⟨[], kvs⟩ { s₁ with heap := h' }) E { s with heap := s.heap.push { cls := .type "dict", data := .dict #[] } }) :
    wpAny (model prog w) A (evalArgs f true [] [(none, t)]) Q E s := by
  unfold evalArgs
  refine wpAny_bind (Calls.spliced_nil ?_)
  refine wpAny_bind (wpAny_pure ?_)
  refine wpAny_holding ?_
  simp only [List.all_cons, Option.isSome_none, Bool.false_and, Bool.false_eq_true, if_false]
  refine wpAny_bind ?_
  unfold mergedKeywords
  refine wpAny_bind (wpAny_alloc ?_)
  refine wpAny_bind (wpAny_holding ?_)
  refine kwloop rfl ?_
  refine wpAny_mono h (fun v s₁ h₁ => ?_) fun _ _ x => x
  obtain ⟨c, kvs, rfl, hd, hne, hS, hc, hz, hQ⟩ := h₁
  refine wpAny_onRaise (wpAny_holding (wpAny_tryCatch (wpAny_onRaise ?_)))
  refine merge_new hne hS hd hc hz fun h' hd' hc' hs' => ?_
  refine wpAny_pure ?_
  refine wpAny_bind (wpAny_pure ?_)
  refine wpAny_bind (wpAny_holding (keywordsIn_str hd' ?_))
  exact wpAny_pure (hQ _ hd' hs')
theorem callWith_star {q : Addr} {pos : Pos} {t : Sem Value} {first : List Value} {Q : Value → Shared → Prop}
    (h : wpAny (model prog w) A (evalArgs (.ref q) true [] [(none, t)]) (fun x s₁ => FnAt q s₁.heap ∧ wpAny (model prog w) A (call (.ref q) (first ++ x.pos) x.kw) Q E s₁) E s) :
    wpAny (model prog w) A (callWith pos (.ref q) first [] [(none, t)]) Q E s := by
  unfold callWith
  refine wpAny_bind (wpAny_holding (wpAny_mono h (fun x s₁ h₁ => wpAny_bind (wpAny_standAt ?_)) fun _ _ x => x))
  obtain ⟨⟨oc, od, fd, sl, e⟩, h₁⟩ := h₁
  refine wpAny_bind ?_
  unfold keeperOf
  refine wpAny_bind (wpAny_load e (wpAny_pure ?_))
  refine wpAny_bind (wpAny_mono (Q := Q) ?_ (fun r s₂ hr => wpAny_bind (wpAny_holding (wpAny_point (wpAny_pure hr)))) fun _ _ x => x)
  exact Calls.wpAny_keep h₁
theorem callWith_ss {C : Cx} {its : List Item} {q c : Addr} {kvs : List (Str × Value)} {first : List Value} {env : Env} {pos p2 : Pos} {e : PySem.Expr} {Q : Value → Shared → Prop} (H : S C its s) (hm : (c, DictI (sk prog w) kvs none) ∈ its) (hz : kvs.length ≤ 1000)
    (he : ∀ d s', S C ((d, DictI (sk prog w) [] none) :: its) s' → wpAny (model prog w) A (eval e env) (fun v s₁ => v = .ref c ∧ S C ((d, DictI (sk prog w) [] none) :: its) s₁) E s')
    (hf : ∀ s', S C its s' → FnAt q s'.heap)
    (h : ∀ us s', us.map ek = kvs → S C its s' → wpAny (model prog w) A (call (.ref q) first us) Q E s') :
    wpAny (model prog w) A (callWith pos (.ref q) first (backTo pos (starEach [] env)) (backToKw pos (keywordEach [⟨none, e, p2⟩] env))) Q E s := by
  refine callWith_star ?_
  refine evalArgs_ss (t := do let v ← eval e env; standAt pos; pure v) ?_
  have H1 : S C ((s.heap.objs.size, DictI (sk prog w) [] none) :: its) { s with heap := s.heap.push { cls := .type "dict", data := .dict #[] } } :=
    H.push ⟨[], ⟨_, _, ⟨rfl, rfl, rfl⟩, rfl, fun _ he => by simp at he, .nil, List.nodup_nil⟩, rfl, nofun⟩ rfl
  refine wpAny_bind (wpAny_mono (he _ _ H1) (fun v s₁ h₁ => ?_) fun _ _ x => x)
  obtain ⟨rfl, H2⟩ := h₁
  refine wpAny_bind (wpAny_standAt (wpAny_pure ?_))
  obtain ⟨o1, ho1, hD1⟩ := H2.get (.head _)
  obtain ⟨us1, hd1, e1⟩ := hD1.at ho1
  obtain rfl : us1 = [] := List.map_eq_nil_iff.mp e1
  obtain ⟨o2, ho2, hD2⟩ := H2.get (.tail _ hm)
  obtain ⟨us2, hd2, e2⟩ := hD2.at ho2
  refine ⟨c, us2, rfl, hd1, ?_, H2.sysm (.tail _ hm), hd2, ?_, fun h' hd' hs' => ?_⟩
  · intro e
    have := H1.nd
    rw [List.map_cons, List.nodup_cons] at this
    exact this.1 (e ▸ List.mem_map_of_mem (f := (·.1)) hm)
  · rw [← e2, List.length_map] at hz; exact hz
  · have H3 : S C its { s₁ with heap := h' } := (S.upD (Q := fun _ _ => True) H2 .head hd' hs' e2).tail
    refine ⟨hf _ H3, ?_⟩
    rw [List.append_nil]
    exact h us2 _ e2 H3
theorem methodCall_SS {env : Env} {o e : PySem.Expr} {name : Str} {apos pos p2 : Pos} {Q : Value → Shared → Prop}
    (h : wpAny (model prog w) A (eval o env) (fun ov s₁ => wpAny (model prog w) A (getAttr ov name true) (fun f s₂ => wpAny (model prog w) A (callWith pos f [] (backTo pos (starEach [] env)) (backToKw pos (keywordEach [⟨none, e, p2⟩] env))) Q E s₂) E s₁) E s)
    (he : eval (.Call (.Attribute o name apos) [] [⟨none, e, p2⟩] pos) env = (do
      let ov ← eval o env
      standAt apos.atName
      let (f, first) ← holding [ov] (do pure (← getAttr ov name true, []))
      callWith pos f first (backTo pos (starEach [] env)) (backToKw pos (keywordEach [⟨none, e, p2⟩] env))) := by rfl) :
    wpAny (model prog w) A (eval (.Call (.Attribute o name apos) [] [⟨none, e, p2⟩] pos) env) Q E s := by
  rw [he]
  refine wpAny_bind (wpAny_mono h (fun ov s₁ h₁ => wpAny_bind (wpAny_standAt (wpAny_bind (wpAny_holding (wpAny_bind (wpAny_mono h₁ (fun f s₂ h₂ => ?_) fun _ _ x => x)))))) fun _ _ x => x)
  exact wpAny_pure h₂
/-- dict(d) -/
theorem r_dict_of {C : Cx} {its : List Item} {α : Type} [DecidableEq α] {knd : PySem.KeyKind prog w α} {c : Addr} {kvs : List (α × Value)} {ep : Option Nat} {Q : Value → Shared → Prop} (H : S C its s) (hm : (c, DictI knd kvs ep) ∈ its) (hz : kvs.length ≤ 100000)
    (h : ∀ d s', S C ((d, DictI knd kvs none) :: its) s' → Q (.ref d) s') : wpAny (model prog w) A (call (.type "dict") [.ref c]) Q E s := by
  obtain ⟨o, ho, hD⟩ := H.get hm
  obtain ⟨us, hd, e⟩ := hD.at ho
  have H1 : S C ((s.heap.objs.size, DictI knd [] none) :: its) { s with heap := s.heap.push { cls := .type "dict", data := .dict #[] } } :=
    H.push ⟨[], ⟨_, _, ⟨rfl, rfl, rfl⟩, rfl, fun _ he => by simp at he, .nil, List.nodup_nil⟩, rfl, nofun⟩ rfl
  refine kt_call_dict (H.sysm hm) hd (by rw [← e, List.length_map] at hz; rw [sizeLine_eq]; omega) fun h' hd' hs' => ?_
  exact h _ _ (S.upD (Q := fun _ _ => True) H1 .head hd' hs' e)
theorem pairs_inj {α : Type} [DecidableEq α] {knd : PySem.KeyKind prog w α} {es : List DictEntry} {us us' : List (α × Value)} (h : Pairs knd es us) (h' : Pairs knd es us') : us = us' := by
  induction h generalizing us' with
  | nil => cases h'; rfl
  | @cons e kv es kvs h1 h2 h3 ih =>
    cases h' with
    | @cons _ kv' _ kvs' h4 h5 h6 =>
      rw [ih h6, show kv = kv' from Prod.ext (knd.inj _ _ _ h1 h4) (h2.symm.trans h5)]
/-- what a dict holds is one thing -/
theorem DictI.inj {α : Type} [DecidableEq α] {knd : PySem.KeyKind prog w α} {kvs kvs' : List (α × Value)} {ep ep' : Option Nat} {o : Obj} (h : DictI knd kvs ep o) (h' : DictI knd kvs' ep' o) : kvs = kvs' := by
  obtain ⟨us, ⟨es, n, _, hd, _, hp, _⟩, rfl, _⟩ := h
  obtain ⟨us', ⟨es', n', _, hd', _, hp', _⟩, rfl, _⟩ := h'
  rw [hd] at hd'
  injection hd' with e1 e2
  subst e1
  rw [pairs_inj hp hp']
end
end Mc

namespace Mc
section
variable {prog : Program} {w : World} {A : Around} {E : Value → Shared → Prop} {s : Shared}
/-- l[i] = v -/
theorem r_setList {C : Cx} {its its' : List Item} {a : Addr} {vs : List Value} {i : Int} {t : Tok} {v X : Value} {Q : Unit → Shared → Prop} (H : S C its s) (hv : er v = X) (hU : Up a (ListI vs) (ListI (vs.set i.toNat X)) its its') (h0 : 0 ≤ i) (hn : i.toNat < vs.length) (hz : vs.length ≤ 1000)
    (h : ∀ s', S C its' s' → Q () s') : wpAny (model prog w) A (setItem (.ref a) (.int i t) v) Q E s := by
  subst hv
  obtain ⟨o, ho, us, n, rfl, e⟩ := H.get hU.mem
  have hlen := len_er e
  have hl : s.heap.IsList a us := ⟨_, ho, rfl, n, rfl⟩
  unfold setItem
  try with_reducible refine wpAny_holding ?_
  first | refine wpAny_bind (wpAny_pure ?_) | skip
  refine wpAny_bind (wpAny_sequenceKey hl.typeIs (by decide) ?_)
  refine wpAny_bind (wpAny_callSpecial?_slot (name := Str.ofString "__setitem__") hl.typeIs PySem.slot_list_setitem
    (wpAny_call_entry PySem.slot_list_setitem hl.typeIs PySem.entry_list_setitem ?_ (PySem.args_list_setitem _ _ _)))
  show wpAny _ _ (Builtin.List.listSubscript? (.int i t) >>= _) _ _ s
  refine wpAny_bind (wpAny_listSubscript_int (fitsIndex_of h0 (by omega)) ?_)
  clear hl
  obtain ⟨j, rfl⟩ := Int.eq_ofNat_of_zero_le h0
  have hn : j < us.size := by
    have : ((j : Int)).toNat = j := rfl
    omega
  have hx' : us[j]? = some us[j] := Array.getElem?_eq_getElem hn
  show wpAny _ _ ((seqItemAt a j >>= fun r => pure (r.map (j, ·))) >>= _) _ _ s
  refine wpAny_bind (wpAny_bind (wpAny_seqItemAt ho rfl (wpAny_pure ?_)))
  rw [hx']
  show wpAny _ _ (setSeqItemAt a j v >>= _) _ _ s
  have hP : ∃ o', (s.heap.update a (Obj.mapSeq (·.setIfInBounds j v))).get? a = some o' ∧ ListI (vs.set j (er v)) o' :=
    ⟨_, Heap.get?_update_self _ ho rfl, us.setIfInBounds j v, _, rfl, by rw [Array.toList_setIfInBounds, List.map_set, e]⟩
  obtain ⟨o', ho', hL⟩ := hP
  have hfin := fun d t => h _ (H.up hU (Heap.SameBut.update ..) ho' hL (d := d) (t := t))
  refine wpAny_bind (wpAny_setSeqItemAt ho rfl ?_)
  first
    | exact wpAny_bind (wpAny_pure (wpAny_pure ⟨.none, rfl, wpAny_pure (hfin _ _)⟩))
    | exact wpAny_pure ⟨.none, rfl, wpAny_pure (hfin _ _)⟩
/-- str(i) -/
theorem r_str_int {a : Int} {t : Tok} {Q : Value → Shared → Prop} (ha : a.natAbs < 1000000) (h : ∀ u, Q (.str (Str.ofString (toString a)) u) { s with toks := s.toks + 1 }) : wpAny (model prog w) A (call (.type "str") [.int a t]) Q E s := by
  refine P.str_of_int ?_ (h _)
  have h1 : a.natAbs.log2 ≤ a.natAbs := Nat.log2_le_self _
  have h2 : a.natAbs < 2 ^ 1920 := Nat.lt_trans ha (by decide +kernel)
  by_cases h0 : a.natAbs = 0
  · rw [h0]; decide
  · exact (Nat.log2_lt h0).mpr h2
end
end Mc

namespace Mc
/-- the sort's tree, asked by a function -/
noncomputable def kRun (c : Nat → Nat → Bool) {α : Type} : KasT α → α
  | .ret a => a
  | .ask i j k => kRun c (k (c i j))
theorem kRun_bind (c : Nat → Nat → Bool) {α β : Type} (f : α → KasT β) : ∀ t : KasT α, kRun c (t.bind f) = kRun c (f (kRun c t))
  | .ret a => rfl
  | .ask i j k => kRun_bind c f (k (c i j))
section
variable {key : Nat → Int} {n : Nat}
/-- the key that stands at a place -/
noncomputable def at_ (key : Nat → Int) (p : Array Nat) (k : Nat) : Int := key (p.getD k 0)
structure Pm (key : Nat → Int) (n : Nat) (p : Array Nat) : Prop where
  size : p.size = n
  perm : p.toList.Perm (List.range n)
  ne : ∀ i j, i < n → j < n → i ≠ j → at_ key p i ≠ at_ key p j
theorem pm_of {p : Array Nat} (hp : p.toList.Perm (List.range n)) (hk : ∀ i j, i < n → j < n → key i = key j → i = j) : Pm key n p := by
  have hs : p.size = n := by have := hp.length_eq; simpa using this
  refine ⟨hs, hp, fun i j hi hj hij e => hij ?_⟩
  have nd : p.toList.Nodup := hp.nodup_iff.mpr List.nodup_range
  have hi' : i < p.toList.length := by simpa [hs] using hi
  have hj' : j < p.toList.length := by simpa [hs] using hj
  have gi : p.getD i 0 = p.toList[i] := by simp [Array.getD, hs, hi]
  have gj : p.getD j 0 = p.toList[j] := by simp [Array.getD, hs, hj]
  unfold at_ at e
  rw [gi, gj] at e
  have m1 := List.mem_range.mp (hp.mem_iff.mp (List.getElem_mem hi'))
  have m2 := List.mem_range.mp (hp.mem_iff.mp (List.getElem_mem hj'))
  exact (List.getElem_inj nd).mp (hk _ _ m1 m2 e)
theorem at_get {p q : Array Nat} {i j : Nat} (h : p[i]? = q[j]?) : at_ key p i = at_ key q j := by
  unfold at_
  have e : ∀ (r : Array Nat) (k : Nat), r.getD k 0 = (r[k]?).getD 0 := fun r k => by simp
  rw [e, e, h]
noncomputable abbrev lessC (key : Nat → Int) : Nat → Nat → Bool := fun i j => decide (key i < key j)
theorem asc_run {p : Array Nat} (P : Pm key n p) : ∀ f m, 1 ≤ m → m + f ≤ n → (∀ k, 1 ≤ k → k < m → at_ key p (k - 1) < at_ key p k) →
    ∃ r, kRun (lessC key) (kas_asc p f m) = r ∧ m ≤ r ∧ r ≤ m + f ∧ (∀ k, 1 ≤ k → k < r → at_ key p (k - 1) < at_ key p k) ∧ (r < m + f → at_ key p r < at_ key p (r - 1))
  | 0, m, h1, h2, h3 => ⟨m, rfl, Nat.le_refl _, Nat.le_refl _, h3, fun h => absurd h (Nat.lt_irrefl _)⟩
  | f + 1, m, h1, h2, h3 => by
    show ∃ r, kRun (lessC key) (if decide (at_ key p m < at_ key p (m - 1)) = true then .ret m else kas_asc p f (m + 1)) = r ∧ _
    by_cases hc : at_ key p m < at_ key p (m - 1)
    · rw [if_pos (by simpa using hc)]
      exact ⟨m, rfl, Nat.le_refl _, by omega, h3, fun _ => hc⟩
    · rw [if_neg (by simpa using hc)]
      have hne := P.ne (m - 1) m (by omega) (by omega) (by omega)
      obtain ⟨r, e, a, b, c, d⟩ := asc_run P f (m + 1) (by omega) (by omega) fun k k1 k2 => by
        by_cases q : k = m
        · subst q; omega
        · exact h3 k k1 (by omega)
      exact ⟨r, e, by omega, by omega, c, fun h => d (by omega)⟩
theorem desc_run {p : Array Nat} (P : Pm key n p) : ∀ f m, 1 ≤ m → m + f ≤ n → (∀ k, 1 ≤ k → k < m → at_ key p k < at_ key p (k - 1)) →
    ∃ r, kRun (lessC key) (kas_desc f p m 0) = (p, r, 0) ∧ m ≤ r ∧ r ≤ m + f ∧ (∀ k, 1 ≤ k → k < r → at_ key p k < at_ key p (k - 1))
  | 0, m, h1, h2, h3 => ⟨m, rfl, Nat.le_refl _, Nat.le_refl _, h3⟩
  | f + 1, m, h1, h2, h3 => by
    show ∃ r, kRun (lessC key) (if decide (at_ key p m < at_ key p (m - 1)) = true then (if 0 > 0 then kas_desc f (kas_rev p (m - (0 + 1)) m) (m + 1) 0 else kas_desc f p (m + 1) 0)
      else .ask (p.getD (m - 1) 0) (p.getD m 0) fun d => if d = true then .ret (p, m, 0) else kas_desc f p (m + 1) (0 + 1)) = (p, r, 0) ∧ _
    by_cases hc : at_ key p m < at_ key p (m - 1)
    · rw [if_pos (by simpa using hc), if_neg (by omega)]
      obtain ⟨r, e, a, b, c⟩ := desc_run P f (m + 1) (by omega) (by omega) fun k k1 k2 => by
        by_cases q : k = m
        · subst q; exact hc
        · exact h3 k k1 (by omega)
      exact ⟨r, e, by omega, by omega, c⟩
    · rw [if_neg (by simpa using hc)]
      have hne := P.ne (m - 1) m (by omega) (by omega) (by omega)
      have hd : at_ key p (m - 1) < at_ key p m := by omega
      refine ⟨m, ?_, Nat.le_refl _, by omega, h3⟩
      show kRun (lessC key) (if decide (at_ key p (m - 1) < at_ key p m) = true then .ret (p, m, 0) else kas_desc f p (m + 1) (0 + 1)) = _
      rw [if_pos (by simpa using hd)]
      rfl
theorem rev_at {p : Array Nat} {m : Nat} (hm : m ≤ p.size) (k : Nat) : at_ key (kas_rev p 0 m) k = if k < m then at_ key p (m - 1 - k) else at_ key p k := by
  have h := getElem?_mirror_all (xs := p) (i := 0) (j := m) hm k
  unfold kas_rev
  by_cases q : k < m
  · rw [if_pos q]
    rw [if_pos ⟨Nat.zero_le _, q⟩, Nat.zero_add] at h
    exact at_get h
  · rw [if_neg q]
    rw [if_neg (by omega)] at h
    exact at_get h
theorem place_run {p : Array Nat} (P : Pm key n p) {k : Nat} (hk : k < n) : ∀ f l r, l ≤ r → r ≤ k → r - l ≤ f → (∀ i, i < l → at_ key p i < at_ key p k) → (∀ i, r ≤ i → i < k → at_ key p k < at_ key p i) →
    (∀ i j, i < j → j < k → at_ key p i < at_ key p j) →
    ∃ q, kRun (lessC key) (kas_place p k f l r) = q ∧ q ≤ k ∧ (∀ i, i < q → at_ key p i < at_ key p k) ∧ (∀ i, q ≤ i → i < k → at_ key p k < at_ key p i)
  | 0, l, r, h1, h2, h3, h4, h5, h6 => ⟨l, rfl, by omega, h4, fun i a b => h5 i (by omega) b⟩
  | f + 1, l, r, h1, h2, h3, h4, h5, h6 => by
    unfold kas_place
    by_cases hlr : l ≥ r
    · rw [if_pos hlr]
      exact ⟨l, rfl, by omega, h4, fun i a b => h5 i (by omega) b⟩
    · rw [if_neg hlr]
      have hm : l ≤ (l + r) / 2 ∧ (l + r) / 2 < r := by omega
      generalize (l + r) / 2 = m at hm
      show ∃ q, kRun (lessC key) (if decide (at_ key p k < at_ key p m) = true then kas_place p k f l m else kas_place p k f (m + 1) r) = q ∧ _
      by_cases hc : at_ key p k < at_ key p m
      · rw [if_pos (by simpa using hc)]
        exact place_run P hk f l m hm.1 (by omega) (by omega) h4 (fun i a b => by
          by_cases q : i = m
          · subst q; exact hc
          · have := h6 m i (by omega) b; omega) h6
      · rw [if_neg (by simpa using hc)]
        have hne := P.ne m k (by omega) hk (by omega)
        exact place_run P hk f (m + 1) r (by omega) h2 (by omega) (fun i a => by
          by_cases q : i = m
          · subst q; omega
          · have := h6 i m (by omega) (by omega); omega) h5 h6
theorem bin_run (hk : ∀ i j, i < n → j < n → key i = key j → i = j) : ∀ f p k, p.toList.Perm (List.range n) → k + f = n → (∀ i j, i < j → j < k → at_ key p i < at_ key p j) →
    ∃ q, kRun (lessC key) (kas_bin f p k) = q ∧ q.toList.Perm (List.range n) ∧ ∀ i j, i < j → j < n → at_ key q i < at_ key q j
  | 0, p, k, hp, hf, hs => ⟨p, rfl, hp, fun i j a b => hs i j a (by omega)⟩
  | f + 1, p, k, hp, hf, hs => by
    have P := pm_of hp hk
    unfold kas_bin
    rw [kRun_bind]
    obtain ⟨q, e, q1, q2, q3⟩ := place_run P (k := k) (by omega) k 0 k (Nat.zero_le _) (Nat.le_refl _) (by omega) (fun i h => absurd h (Nat.not_lt_zero _)) (fun i a b => absurd b (by omega)) hs
    rw [e]
    have hb : ∀ i, at_ key (bubble p k (k - q)) i = if i = q then at_ key p k else if q < i ∧ i ≤ k then at_ key p (i - 1) else at_ key p i := fun i => by
      have h := getElem?_bubble (xs := p) (src := k) (by rw [P.size]; omega) (k - q) (by omega) i
      have e1 : k - (k - q) = q := by omega
      rw [e1] at h
      by_cases a : i = q
      · rw [if_pos a]; rw [if_pos a] at h; exact at_get h
      · rw [if_neg a]; rw [if_neg a] at h
        by_cases b : q < i ∧ i ≤ k
        · rw [if_pos b]; rw [if_pos b] at h; exact at_get h
        · rw [if_neg b]; rw [if_neg b] at h; exact at_get h
    refine bin_run hk f _ (k + 1) ((Array.perm_iff_toList_perm.mp (bubble_perm p k (k - q))).trans hp) (by omega) fun i j a b => ?_
    rw [hb, hb]
    by_cases iq : i = q
    · rw [if_pos iq]
      by_cases jq : j = q
      · omega
      · rw [if_neg jq, if_pos (by omega)]
        exact q3 _ (by omega) (by omega)
    · rw [if_neg iq]
      by_cases jq : j = q
      · rw [if_pos jq, if_neg (by omega)]
        exact q2 _ (by omega)
      · rw [if_neg jq]
        by_cases i1 : q < i ∧ i ≤ k
        · rw [if_pos i1, if_pos (by omega)]
          exact hs _ _ (by omega) (by omega)
        · rw [if_neg i1]
          by_cases j1 : q < j ∧ j ≤ k
          · rw [if_pos j1]
            have iq2 : i ≤ q := Nat.not_lt.mp fun h => i1 ⟨h, Nat.le_of_lt (Nat.lt_of_lt_of_le a j1.2)⟩
            exact hs _ _ (Nat.lt_of_lt_of_le (Nat.lt_of_le_of_ne iq2 iq) (Nat.le_sub_one_of_lt j1.1)) (Nat.sub_one_lt_of_le (Nat.lt_of_le_of_lt (Nat.zero_le _) j1.1) j1.2)
          · rw [if_neg j1]
            exact hs _ _ a (by omega)
theorem chain_lt {g : Nat → Int} {m : Nat} (h : ∀ k, 1 ≤ k → k < m → g (k - 1) < g k) : ∀ i j, i < j → j < m → g i < g j := by
  intro i j
  induction j with
  | zero => intro h; omega
  | succ j ih =>
    intro a b
    have h1 := h (j + 1) (by omega) b
    by_cases q : i = j
    · subst q; exact h1
    · have := ih (by omega) (by omega)
      simp only [Nat.add_sub_cancel] at h1
      omega
theorem count_run (hn : 2 ≤ n) (hk : ∀ i j, i < n → j < n → key i = key j → i = j) {p : Array Nat} (hp : p.toList.Perm (List.range n)) :
    ∃ m q, kRun (lessC key) (kas_count n p) = (m, q) ∧ q.toList.Perm (List.range n) ∧ 1 ≤ m ∧ m ≤ n ∧ ∀ i j, i < j → j < m → at_ key q i < at_ key q j := by
  have P := pm_of hp hk
  unfold kas_count
  rw [kRun_bind]
  obtain ⟨m, e, a, b, c, d⟩ := asc_run P (n - 1) 1 (Nat.le_refl _) (by omega) fun k k1 k2 => by omega
  rw [e]
  by_cases h1 : m = n
  · rw [if_pos (by simpa using h1)]
    exact ⟨m, p, rfl, hp, a, by omega, chain_lt c⟩
  rw [if_neg (by simpa using h1)]
  by_cases h2 : m > 1
  · rw [if_pos h2]
    have h0 := chain_lt c 0 (m - 1) (by omega) (by omega)
    show ∃ m_1 q, kRun (lessC key) (if decide (at_ key p 0 < at_ key p (m - 1)) = true then .ret (m, p) else kas_descPart m n (kas_rev p 0 m)) = (m_1, q) ∧ _
    rw [if_pos (by simpa using h0)]
    exact ⟨m, p, rfl, hp, a, by omega, chain_lt c⟩
  · rw [if_neg h2]
    have hm1 : m = 1 := by omega
    subst hm1
    have d1 := d (by omega)
    unfold kas_descPart
    rw [kRun_bind]
    obtain ⟨r, e2, a2, b2, c2⟩ := desc_run P (n - (1 + 1)) (1 + 1) (by omega) (by omega) fun k k1 k2 => by
      have : k = 1 := by omega
      subst this; exact d1
    rw [e2]
    dsimp only
    rw [if_neg (Nat.lt_irrefl 0)]
    unfold kas_tail3
    rw [kRun_bind]
    have hr : r ≤ p.size := by rw [P.size]; omega
    have hp2 : (kas_rev p 0 r).toList.Perm (List.range n) := (Array.perm_iff_toList_perm.mp (mirror_perm p 0 r _)).trans hp
    obtain ⟨m2, e3, a3, b3, c3, _⟩ := asc_run (pm_of hp2 hk) (n - r) r (Nat.le_trans (Nat.le_succ 1) a2) (by omega) fun k k1 k2 => by
      obtain ⟨k', rfl⟩ : ∃ k', k = k' + 1 := ⟨k - 1, (Nat.succ_pred_eq_of_pos k1).symm⟩
      have e9 : r - 1 - k' - 1 = r - 1 - (k' + 1) := Nat.sub_sub _ _ _
      show at_ key (kas_rev p 0 r) k' < at_ key (kas_rev p 0 r) (k' + 1)
      rw [rev_at hr, rev_at hr, if_pos (Nat.lt_of_le_of_lt (Nat.le_succ _) k2 : k' < r), if_pos k2]
      have := c2 (r - 1 - k') (Nat.sub_pos_of_lt (Nat.lt_sub_of_add_lt k2)) (Nat.lt_of_le_of_lt (Nat.sub_le _ _) (Nat.sub_lt (Nat.lt_of_lt_of_le Nat.zero_lt_two a2) Nat.one_pos))
      rw [e9] at this
      exact this
    rw [e3]
    exact ⟨m2, _, rfl, hp2, by omega, by omega, chain_lt c3⟩
theorem sort_run (hn : 2 ≤ n) (hk : ∀ i j, i < n → j < n → key i = key j → i = j) :
    ∃ q, kRun (lessC key) (kas_sort n) = q ∧ q.toList.Perm (List.range n) ∧ ∀ i j, i < j → j < n → at_ key q i < at_ key q j := by
  unfold kas_sort
  rw [kRun_bind]
  obtain ⟨m, q, e, hq, h1, h2, h3⟩ := count_run hn hk (p := (List.range n).toArray) (by simp)
  rw [e]
  dsimp only
  by_cases h : m < n
  · rw [if_pos h]
    have e1 : max m 1 = m := by omega
    rw [e1]
    exact bin_run hk (n - m) q m hq (by omega) h3
  · rw [if_neg h]
    exact ⟨q, rfl, hq, fun i j a b => h3 i j a (by omega)⟩
end
end Mc

namespace Mc
/-- all that the tree asks lies below n; what it gives bears P -/
noncomputable def AskP (n : Nat) {α : Type} (P : α → Prop) : KasT α → Prop
  | .ret a => P a
  | .ask i j k => i < n ∧ j < n ∧ ∀ b, AskP n P (k b)
theorem AskP.bind {n : Nat} {α β : Type} {P : α → Prop} {Q : β → Prop} {f : α → KasT β} (hf : ∀ a, P a → AskP n Q (f a)) : ∀ {t : KasT α}, AskP n P t → AskP n Q (t.bind f)
  | .ret a, h => hf a h
  | .ask i j k, h => ⟨h.1, h.2.1, fun b => AskP.bind hf (h.2.2 b)⟩
noncomputable def InN (n : Nat) (p : Array Nat) : Prop := 0 < n ∧ ∀ x ∈ p, x < n
section
variable {n : Nat} {p : Array Nat}
theorem InN.get (h : InN n p) (k : Nat) : p.getD k 0 < n := by
  by_cases q : k < p.size
  · have : p.getD k 0 = p[k] := by simp [Array.getD, q]
    rw [this]; exact h.2 _ (Array.getElem_mem q)
  · have : p.getD k 0 = 0 := by simp [Array.getD, q]
    rw [this]; exact h.1
theorem InN.of_perm {q : Array Nat} (h : InN n p) (e : q.Perm p) : InN n q := ⟨h.1, fun x hx => h.2 x (e.mem_iff.mp hx)⟩
theorem InN.rev (h : InN n p) (i j : Nat) : InN n (kas_rev p i j) := h.of_perm (mirror_perm p i j _)
theorem InN.bub (h : InN n p) (i j : Nat) : InN n (bubble p i j) := h.of_perm (bubble_perm p i j)
theorem ask_asc (h : InN n p) : ∀ f m, AskP n (fun _ => True) (kas_asc p f m)
  | 0, m => trivial
  | f + 1, m => ⟨h.get _, h.get _, fun b => by cases b; exact ask_asc h f (m + 1); trivial⟩
theorem ask_desc : ∀ f (p : Array Nat) m q, InN n p → AskP n (fun r => InN n r.1) (kas_desc f p m q)
  | 0, p, m, q, h => h
  | f + 1, p, m, q, h => by
    refine ⟨h.get _, h.get _, fun b => ?_⟩
    cases b with
    | true =>
      show AskP n _ (if q > 0 then kas_desc f (kas_rev p (m - (q + 1)) m) (m + 1) 0 else kas_desc f p (m + 1) 0)
      split
      · exact ask_desc f _ _ _ (h.rev _ _)
      · exact ask_desc f _ _ _ h
    | false =>
      refine ⟨h.get _, h.get _, fun d => ?_⟩
      cases d with
      | true => exact h
      | false => exact ask_desc f _ _ _ h
theorem ask_tail3 (h : InN n p) (m r : Nat) : AskP n (fun q => InN n q.2) (kas_tail3 m r p) := AskP.bind (P := fun _ => True) (Q := fun q : Nat × Array Nat => InN n q.2) (f := fun x => .ret (x, kas_rev p 0 m)) (fun _ _ => h.rev 0 m) (ask_asc (h.rev 0 m) _ _)
theorem ask_descPart (h : InN n p) (m r : Nat) : AskP n (fun q => InN n q.2) (kas_descPart m r p) := by
  refine (ask_desc _ p _ _ h).bind fun a ha => ?_
  split
  · exact ask_tail3 (InN.rev ha _ _) _ _
  · exact ask_tail3 ha _ _
theorem ask_count (h : InN n p) (r : Nat) : AskP n (fun q => InN n q.2) (kas_count r p) := by
  refine (ask_asc h _ _).bind fun m _ => ?_
  split
  · exact h
  split
  · refine ⟨h.get _, h.get _, fun b => ?_⟩
    cases b with
    | true => exact h
    | false => exact ask_descPart (h.rev _ _) _ _
  · exact ask_descPart h _ _
theorem ask_place (h : InN n p) (k : Nat) : ∀ f l r, AskP n (fun _ => True) (kas_place p k f l r)
  | 0, l, r => trivial
  | f + 1, l, r => by
    unfold kas_place
    split
    · trivial
    · refine ⟨h.get _, h.get _, fun b => ?_⟩
      cases b with
      | true => exact ask_place h k f _ _
      | false => exact ask_place h k f _ _
theorem ask_bin : ∀ f (p : Array Nat) k, InN n p → AskP n (fun _ => True) (kas_bin f p k)
  | 0, p, k, h => trivial
  | f + 1, p, k, h => (ask_place h k k 0 k).bind fun l _ => ask_bin f _ _ (h.bub _ _)
theorem ask_sort (hn : 0 < n) : AskP n (fun _ => True) (kas_sort n) := by
  refine (ask_count (p := (List.range n).toArray) ⟨hn, fun x hx => by simpa using hx⟩ n).bind fun r hr => ?_
  split
  · exact ask_bin _ _ _ hr
  · trivial
end
/-- a tree whose asks are told by a function -/
theorem tree_run {n : Nat} {c : Nat → Nat → Bool} {α : Type} {Pα : α → Prop} {cmp : Nat → Nat → (Bool → Shared → Prop) → Shared → Prop} {I : Shared → Prop} (hc : ∀ i j, i < n → j < n → ∀ (C : Bool → Shared → Prop) s, I s → (∀ s', I s' → C (c i j) s') → cmp i j C s) :
    ∀ (t : KasT α) (s : Shared), AskP n Pα t → I s → t.kasWp cmp (fun a s' => I s' ∧ a = kRun c t) s
  | .ret a, s, _, h => ⟨h, rfl⟩
  | .ask i j k, s, hp, h => hc i j hp.1 hp.2.1 _ s h fun s' h' => tree_run hc (k (c i j)) s' (hp.2.2 _) h'
section
variable {prog : Program} {w : World} {A : Around} {E : Value → Shared → Prop} {C : Cx} {s : Shared}
/-- pairs of a number and a text, laid as tuples -/
noncomputable def pairOf (r : Int × Str) : List Value := [.int r.1 0, .str r.2 0]
theorem TupI.seq {vs : List Value} {o : Obj} (h : TupI vs o) : ∃ us n, o.cls = .type "tuple" ∧ o.data = .seq us n ∧ us.toList.map er = vs := by
  obtain ⟨us, n, rfl, e⟩ := h; exact ⟨us, n, rfl, rfl, e⟩
theorem pair_er {us : Array Value} {r : Int × Str} (h : us.toList.map er = pairOf r) : ∃ t u, us.toList = [.int r.1 t, .str r.2 u] := by
  obtain ⟨l⟩ := us
  unfold pairOf at h
  rcases l with _ | ⟨a, _ | ⟨b, _ | ⟨c, l⟩⟩⟩
  · simp at h
  · simp at h
  · simp only [List.map_cons, List.map_nil, List.cons.injEq, and_true] at h
    obtain ⟨t, rfl⟩ := er_int h.1
    obtain ⟨u, rfl⟩ := er_str h.2
    exact ⟨t, u, rfl⟩
  · simp at h
theorem lt_pair {its : List Item} {Q : Bool → Shared → Prop} {x y : Addr} {a b : Int × Str} (H : S C its s) (hx : (x, TupI (pairOf a)) ∈ its) (hy : (y, TupI (pairOf b)) ∈ its) (hab : a.1 = b.1 → a = b)
    (h : Q (decide (a.1 < b.1)) s) : wpAny (model prog w) A (keyLt' (tuples' true) (.ref x) (.ref y)) Q E s := by
  obtain ⟨ox, hox, zx⟩ := H.get hx
  obtain ⟨oy, hoy, zy⟩ := H.get hy
  obtain ⟨ux, nx, _, dx, ex⟩ := zx.seq
  obtain ⟨uy, ny, _, dy, ey⟩ := zy.seq
  obtain ⟨t1, t2, e1⟩ := pair_er ex
  obtain ⟨t3, t4, e2⟩ := pair_er ey
  refine kat_lt hox dx hoy dy ?_
  rw [e1, e2]
  have s1 : ux.size = 2 := by have := congrArg List.length e1; simpa using this
  have s2 : uy.size = 2 := by have := congrArg List.length e2; simpa using this
  refine kat_cons (wpAny_eqBool_int ?_)
  by_cases q : a.1 = b.1
  · have := hab q; subst this
    rw [beq_self_eq_true]
    refine kat_yes (kat_cons (eqBool_str ?_))
    rw [beq_self_eq_true]
    refine kat_yes (kat_nil ?_)
    rw [s1, s2]
    have e : decide (2 < 2) = decide (a.1 < a.1) := by simp
    rw [e]; exact h
  · have e : (a.1 == b.1) = false := by simpa using q
    rw [e]
    exact kat_no (oneLt_int h)
end
end Mc

namespace Mc
section
variable {prog : Program} {w : World} {A : Around} {E : Value → Shared → Prop} {C : Cx} {s : Shared}
theorem refs_of {us : Array Value} {ts : List Addr} (e : us.toList.map er = ts.map .ref) : us.toList = ts.map .ref := by
  obtain ⟨l⟩ := us
  simp only at e ⊢
  induction l generalizing ts with
  | nil => cases ts with | nil => rfl | cons _ _ => simp at e
  | cons v l ih => cases ts with
    | nil => simp at e
    | cons t ts =>
      simp only [List.map_cons, List.cons.injEq] at e ⊢
      exact ⟨er_ref e.1, ih e.2⟩
theorem kat_of {its : List Item} (H : S C its s) : ∀ (ts : List Addr) (rows : List (Int × Str)), ts.length = rows.length → (∀ p ∈ tupIts ts (rows.map pairOf), p ∈ its) → ∃ fs, KatTups s.heap (ts.map .ref) fs ∧ fs.length = ts.length ∧ ∀ v ∈ fs, ∃ i t, v = .int i t
  | [], [], _, _ => ⟨[], trivial, rfl, fun _ h => nomatch h⟩
  | [], _ :: _, h, _ => by simp at h
  | _ :: _, [], h, _ => by simp at h
  | t :: ts, r :: rows, h, hm => by
    have hm' : ∀ p ∈ (t, TupI (pairOf r)) :: tupIts ts (rows.map pairOf), p ∈ its := hm
    obtain ⟨fs, h1, h2, h3⟩ := kat_of H ts rows (by simpa using h) fun p hp => hm' p (.tail _ hp)
    obtain ⟨o, ho, z⟩ := H.get (hm' _ (.head _))
    obtain ⟨us, n, hc, hd, e⟩ := z.seq
    obtain ⟨k1, k2, e1⟩ := pair_er e
    refine ⟨.int r.1 k1 :: fs, ?_, by simp [h2], fun v hv => ?_⟩
    · exact KatTups.cons ho hc hd (by rw [← Array.getElem?_toList, e1]; rfl) h1
    · rcases List.mem_cons.mp hv with rfl | hv
      · exact ⟨_, _, rfl⟩
      · exact h3 v hv
theorem getD_mem {α : Type} {l : List α} {i : Nat} {d : α} (h : i < l.length) : l.getD i d = l[i] := by simp [h]
theorem zip_getD {α β : Type} {a : List α} {b : List β} (h : a.length = b.length) (da : α) (db : β) : (List.range a.length).map (fun i => (a.getD i da, b.getD i db)) = a.zip b := by
  apply List.ext_getElem
  · simp [h]
  · intro i h1 h2
    have h3 : i < a.length := by simpa using h1
    simp [h3, h ▸ h3]
/-- xs.sort() of a list of pairs, no two with one first -/
theorem r_lsort {Q : Value → Shared → Prop} {itsF : (Obj → Prop) → List Item} {D : Addr} {ts : List Addr} {rows : List (Int × Str)} (H : S C (itsF (ListI (ts.map .ref))) s) (hU : ∀ P P', Up D P P' (itsF P) (itsF P')) (hlen : ts.length = rows.length)
    (htup : ∀ P, ∀ p ∈ tupIts ts (rows.map pairOf), p ∈ itsF P) (hnd : (rows.map (·.1)).Nodup) (hz : rows.length < 64)
    (h : ∀ (ts' : List Addr) (rows' : List (Int × Str)) s', ts'.length = rows'.length → (ts'.zip rows').Perm (ts.zip rows) → (rows'.map (·.1)).Pairwise (· < ·) → S C (itsF (ListI (ts'.map .ref))) s' → Q .none s') :
    wpAny (model prog w) A (call (.builtin "list.sort") [.ref D]) Q E s := by
  obtain ⟨o, ho, us, n0, rfl, e⟩ := H.get (hU _ (fun _ => True)).mem
  have e := refs_of e
  have hus : us = (ts.map Value.ref).toArray := by rw [← e]
  subst hus
  clear e
  have hvl : (ts.map Value.ref).length = rows.length := by rw [List.length_map, hlen]
  refine wpAny_call_entry PyProof.Rows.slot_list_sort ⟨_, ho, rfl⟩ PyProof.Rows.entry_list_sort ?_ (PyProof.Rows.args_list_sort _)
  rw [list_sort_plain]
  refine wpAny_bind (listItems_at ho rfl ?_)
  refine wpAny_bind (listUpdate_at ho rfl ?_ (by rw [List.size_toArray, sizeLine_eq]; omega) (Nat.zero_le _))
  have sb1 := Heap.SameBut.update s.heap D (Obj.mapSeq fun _ => (#[] : Array Value))
  obtain ⟨e1, ho1⟩ : ∃ e1, (s.heap.update D (Obj.mapSeq fun _ => (#[] : Array Value))).get? D = some (seqObj "list" #[] e1) := ⟨_, get?_update_seq ho fun _ => #[]⟩
  have H1 : S C (itsF (fun o => o = seqObj "list" #[] e1)) ⟨s.heap.update D (Obj.mapSeq fun _ => (#[] : Array Value)), s.gens, s.drawn, s.toks, s.os⟩ := H.up (P' := fun o => o = seqObj "list" #[] e1) (hU _ _) sb1 ho1 rfl
  refine wpAny_bind (seqEpoch_at ho1 rfl ?_)
  refine wpAny_bind (wpAny_newTuple ?_ (by show (ts.map Value.ref).length ≤ _; rw [sizeLine_eq]; omega))
  refine wpAny_bind (wpAny_newList ?_ (Nat.zero_le _))
  refine wpAny_holding ?_
  have H2 := (H1.push (o := seqObj "tuple" (ts.map Value.ref).toArray 0) (P := fun _ => True) (d := s.drawn) (t := s.toks) trivial rfl).tail
  have H3 := (H2.push (o := seqObj "list" #[] 0) (P := fun _ => True) (d := s.drawn) (t := s.toks) trivial rfl).tail
  show wpAny (model prog w) A.in1 _ _ _ { s with heap := ((s.heap.update D (Obj.mapSeq fun _ => (#[] : Array Value))).push (seqObj "tuple" (ts.map Value.ref).toArray 0)).push (seqObj "list" #[] 0) }
  dsimp only at H3 ⊢
  generalize (⟨((s.heap.update D (Obj.mapSeq fun _ => (#[] : Array Value))).push (seqObj "tuple" (ts.map Value.ref).toArray 0)).push (seqObj "list" #[] 0), s.gens, s.drawn, s.toks, s.os⟩ : Shared) = s3 at H3 ⊢
  have hu2 : (ts.map Value.ref).toArray.size = rows.length := by rw [List.size_toArray]; exact hvl
  have fin : ∀ (out : List Addr) (s' : Shared), out.length < 64 → S C (itsF (fun o => o = seqObj "list" #[] e1)) s' → (∀ s'', S C (itsF (ListI (out.map .ref))) s'' → Q .none s'') →
      wpAny (model prog w) A.in1 (do
        let touched := (← seqEpoch D) != e1
        Builtin.List.listUpdate (.ref D) fun _ => (out.map Value.ref).toArray
        if touched = true then do
          rule "list.sort.modified"
          raiseError "ValueError" "list modified during sort"
        ret .none) (fun fin s' => ∃ v, fin = Fin.done (Flow.ret v) ∧ Q v s') E s' := by
    intro out s' hl H' k
    obtain ⟨o', ho', rfl⟩ := H'.get (hU (fun o => o = seqObj "list" #[] e1) (fun _ => True)).mem
    refine wpAny_bind (seqEpoch_at ho' rfl ?_)
    refine wpAny_bind (listUpdate_at ho' rfl ?_ (Nat.zero_le _) (by rw [List.size_toArray, List.length_map, sizeLine_eq]; omega))
    simp only [bne_self_eq_false, Bool.false_eq_true, if_false]
    obtain ⟨c2, hc2⟩ : ∃ c2, (s'.heap.update D (Obj.mapSeq fun _ => (out.map Value.ref).toArray)).get? D = some (seqObj "list" (out.map Value.ref).toArray c2) := ⟨_, get?_update_seq ho' fun _ => (out.map Value.ref).toArray⟩
    have er_refs : ∀ l : List Addr, (l.map Value.ref).map er = l.map Value.ref := fun l => by rw [List.map_map]; rfl
    exact wpAny_pure ⟨_, rfl, k _ (H'.up (P' := ListI (out.map .ref)) (hU _ _) (Heap.SameBut.update ..) hc2 ⟨(out.map Value.ref).toArray, c2, rfl, er_refs out⟩)⟩
  by_cases h2 : (ts.map Value.ref).toArray.size < 2
  · rw [if_pos h2, if_pos h2]
    refine wpAny_bind (wpAny_pure ?_)
    rw [StateT.run_pure]
    refine wpAny_bind (wpAny_pure ?_)
    dsimp only
    have e5 : Array.map (fun x => x.snd) (arrOf (SortSt.mk' general' ((ts.map Value.ref).toArray.zip (ts.map Value.ref).toArray) #[] 7 none)) = (ts.map Value.ref).toArray := by
      show Array.map (fun x => x.snd) ((ts.map Value.ref).toArray.zip (ts.map Value.ref).toArray) = _
      apply Array.toList_inj.mp
      rw [Array.toList_map, Array.toList_zip]
      exact List.map_snd_zip (Nat.le_refl _)
    rw [e5]
    have := fin ts s3 (by omega) H3 fun s'' H'' => h ts rows s'' hlen (List.Perm.refl _) (by
      have : rows.length < 2 := by omega
      match rows, this with
      | [], _ => simp
      | [_], _ => simp) H''
    exact this
  · rw [if_neg h2, if_neg h2]
    have hn2 : 2 ≤ rows.length := by omega
    obtain ⟨fs, k1, k2, k3⟩ := kat_of H3 ts rows hlen (htup _)
    refine wpAny_bind (kat_kind (T := .type "int") k1 (by omega) (fun v hv => ?_) rfl ?_)
    · obtain ⟨i, t, rfl⟩ := k3 v hv
      exact .now
    have hkey : ∀ i j, i < rows.length → j < rows.length → (rows.getD i (0, "")).1 = (rows.getD j (0, "")).1 → i = j := fun i j hi hj e => by
      rw [getD_mem hi, getD_mem hj] at e
      have hi' : i < (rows.map (·.1)).length := by simpa using hi
      have hj' : j < (rows.map (·.1)).length := by simpa using hj
      refine (List.getElem_inj hnd (h₀ := hi') (h₁ := hj')).mp ?_
      rw [List.getElem_map, List.getElem_map]; exact e
    obtain ⟨q, hq, hqp, hqs⟩ := sort_run (key := fun i => (rows.getD i (0, "")).1) hn2 hkey
    have tree := tree_run (n := rows.length) (c := lessC fun i => (rows.getD i (0, "")).1) (cmp := kas_ask prog w A.in1 (tuples' true) (ts.map Value.ref)) (I := fun s' => S C (itsF (fun o => o = seqObj "list" #[] e1)) s') (fun i j hi hj C' s' H' hk => by
      unfold kas_ask
      have hti : i < ts.length := by omega
      have htj : j < ts.length := by omega
      have m : ∀ k (hk : k < rows.length), (ts[k]'(by omega), TupI (pairOf rows[k])) ∈ itsF (fun o => o = seqObj "list" #[] e1) := fun k hk => htup _ _ (by
        unfold tupIts
        refine List.mem_map.mpr ⟨(ts[k]'(by omega), pairOf rows[k]), ?_, rfl⟩
        refine List.mem_iff_getElem.mpr ⟨k, by simp; omega, by simp⟩)
      have gi : (ts.map Value.ref).getD i Value.none = .ref ts[i] := by rw [getD_mem (by simpa using hti), List.getElem_map]
      have gj : (ts.map Value.ref).getD j Value.none = .ref ts[j] := by rw [getD_mem (by simpa using htj), List.getElem_map]
      rw [gi, gj]
      refine lt_pair H' (m i hi) (m j hj) (fun e => ?_) ?_
      · have := hkey i j hi hj (by rw [getD_mem hi, getD_mem hj]; exact e)
        subst this; rfl
      · have e9 : decide ((rows[i]).1 < (rows[j]).1) = lessC (fun i => (rows.getD i (0, "")).1) i j := by
          show _ = decide ((rows.getD i (0, "")).1 < (rows.getD j (0, "")).1)
          rw [getD_mem hi, getD_mem hj]
        rw [e9]
        exact hk s' H') (kas_sort rows.length) s3 (ask_sort (by omega)) H3
    rw [hq] at tree
    rw [show (Value.type "int" != Value.type "tuple") = true from rfl]
    rw [← hvl] at tree
    refine wpAny_bind (wpAny_mono (kat_run (ks := ts.map Value.ref) (vs := ts.map Value.ref) (Q := fun st' s' => arrOf st' = q.map (kas_item ((ts.map Value.ref).toArray.zip (ts.map Value.ref).toArray)) ∧ failedOf st' = none ∧ S C (itsF (fun o => o = seqObj "list" #[] e1)) s')
      rfl (by omega) (by omega) (fun p st' s' a1 a2 a3 a4 => ⟨by rw [a2, a4.2], a3, a4.1⟩) tree) ?_ fun _ _ e => e)
    rintro ⟨⟨⟩, st'⟩ s' ⟨har, hf, H'⟩
    dsimp only at har hf H' ⊢
    rw [hf]
    have hout := kat_snds (ks := ts.map Value.ref) (vs := ts.map Value.ref) rfl har
    have eo : (q.toList.map fun i => (ts.map Value.ref).getD i Value.none) = (q.toList.map fun i => ts.getD i 0).map Value.ref := by
      rw [List.map_map]
      refine List.map_congr_left fun i hi => ?_
      have : i < rows.length := List.mem_range.mp (hqp.mem_iff.mp hi)
      show (ts.map Value.ref).getD i Value.none = .ref (ts.getD i 0)
      rw [getD_mem (by rw [hvl]; exact this), getD_mem (by omega), List.getElem_map]
    rw [show Array.map (fun x => x.snd) (arrOf st') = (arrOf st').map (·.2) from rfl, hout, eo]
    have hql : q.toList.length = rows.length := by rw [hqp.length_eq, List.length_range]
    refine fin (q.toList.map fun i => ts.getD i 0) s' (by rw [List.length_map, hql]; exact hz) H' fun s'' H'' => ?_
    refine h _ (q.toList.map fun i => rows.getD i (0, "")) s'' (by simp) ?_ ?_ H''
    · have e1 : (q.toList.map fun i => ts.getD i 0).zip (q.toList.map fun i => rows.getD i (0, "")) = q.toList.map fun i => (ts.getD i 0, rows.getD i (0, "")) := by
        rw [List.zip_map']
      rw [e1, ← zip_getD hlen 0 (0, ""), hlen]
      exact hqp.map _
    · rw [List.map_map, List.pairwise_map]
      refine List.pairwise_iff_getElem.mpr fun i j hi hj hij => ?_
      have hj2 : j < rows.length := by rw [← hql]; exact hj
      have := hqs i j hij hj2
      unfold at_ at this
      have g : ∀ k (hk : k < q.toList.length), q.getD k 0 = q.toList[k] := fun k hk => by
        have : k < q.size := by simpa using hk
        simp [Array.getD, this]
      rw [g i hi, g j hj] at this
      exact this
end
end Mc

namespace Mc
/-- the top's run over a tree of objects -/
noncomputable def topRunT (tb : String → Option Builtin) (p : Program) (w : World) (n₀ : Nat) (ann : Option Value) : Nat → SharedT → Thread → Option SharedT
  | 0, _, _ => none
  | n + 1, s, t => match through t with
    | true => some s
    | false => match stepOk n₀ ann t with
      | false => none
      | true => match stepT (denote tb) p w s t with
        | some (s', t') => topRunT tb p w n₀ ann n s' t'
        | none => none
theorem topRunT_of {tb : String → Option Builtin} {p : Program} {w : World} {n₀ : Nat} {ann : Option Value} : ∀ {n : Nat} {s s' : SharedT} {t : Thread}, topRunT tb p w n₀ ann n s t = some s' → topRun tb p w n₀ ann n s.abs t = some s'.abs
  | 0, _, _, _, h => by cases h
  | n + 1, s, s', t, h => by
    unfold topRunT at h
    unfold topRun
    cases he : through t with
    | true => rw [he] at h; cases h; rfl
    | false =>
      rw [he] at h
      cases hk : stepOk n₀ ann t with
      | false => rw [hk] at h; cases h
      | true =>
        rw [hk] at h
        cases hs : stepT (denote tb) p w s t with
        | none => rw [hs] at h; cases h
        | some r => obtain ⟨s₂, t₂⟩ := r; rw [hs] at h; rw [stepT_spec hs]; exact topRunT_of h
noncomputable def insAll : Nat → List Obj → BT → BT
  | _, [], t => t
  | i, o :: r, t => insAll (i + 1) r (t.ins i o)
/-- the run's end, looked at -/
noncomputable def looked (p q : Program) (loose : List Str) (Xt : Shared → Bool) {α : Type} (Yf : Shared → α) (h₀ : Heap) (s : Shared) :=
  match staticsOk (importedModules p.main.body) h₀ s.heap && namesBound p s.heap && gensDone s && laidKept h₀ s.heap with
  | true => some (openSeen q loose (importedModules p.main.body) Xt true s, Yf s)
  | false => none
noncomputable def bootT (P : Params) : BT := insAll 0 (boot_heap P).objs.toList .nil
noncomputable def bootS (P : Params) (n : Nat) (os : OsState) : SharedT := ⟨bootT P, n, (boot_heap P).life, Array.mk [], boot_drawn, boot_toks, os⟩
theorem left_of {p q : Program} {loose : List Str} {Xt : Shared → Bool} {α : Type} {Yf : Shared → α} {Ya : World → α} {N n : Nat} {ann : Option Value} (row : String)
    (e : opening p = plainProg p.main.scope.names) (hN : Nat.ble 600 N = true) (f : ∀ s, fenceModules? p s = some s)
    (hb : ∀ P, absHeap (bootT P) n (boot_heap P).life = boot_heap P) (hs : ∀ P, ((boot_heap P).isNs mainGlobals, (boot_heap P).objs.size, (boot_heap P).nsMap mainGlobals "__annotations__") = (true, n, ann))
    (run : ∀ (b : Bool) (w : World), (fun os => (topRunT treeTable p (w.withFollow row b) n ann N (bootS w.params n os) (topStub p)).bind fun s => looked p q loose Xt Yf (boot_heap w.params) s.abs) = fun _ => some (openGood q loose, Ya (w.withFollow row b))) :
    LeftO p q loose Xt Yf Ya N := by
  intro w
  obtain ⟨s, hs1, hs2⟩ := Option.map_eq_some_iff.mp (boot_open e hN f w)
  obtain ⟨h, gs, d, k, os⟩ := s
  obtain ⟨rfl, rfl, rfl, rfl⟩ : h = boot_heap w.params ∧ gs = Array.mk [] ∧ d = boot_drawn ∧ k = boot_toks := by simpa using hs2
  obtain ⟨z1, z2, z3⟩ : _ ∧ _ ∧ _ := by simpa only [Prod.mk.injEq] using hs w.params
  have r := congrFun (run (w.params.followText row) w) os
  rw [World.withFollow_self] at r
  obtain ⟨s₁, r1, r2⟩ := Option.bind_eq_some_iff.mp r
  have r1 := topRunT_of r1
  have eS : (bootS w.params n os).abs = ⟨boot_heap w.params, Array.mk [], boot_drawn, boot_toks, os⟩ := by
    show (⟨absHeap (bootT w.params) n (boot_heap w.params).life, _, _, _, _⟩ : Shared) = _
    rw [hb]; rfl
  rw [eS] at r1
  unfold openEnds
  rw [hs1]
  show (topFrom treeTable p w N _).map _ = _
  unfold topFrom
  dsimp only
  rw [z1, z2, z3, r1]
  unfold looked at r2
  cases hq : staticsOk (importedModules p.main.body) (boot_heap w.params) s₁.abs.heap && namesBound p s₁.abs.heap && gensDone s₁.abs && laidKept (boot_heap w.params) s₁.abs.heap with
  | false => rw [hq] at r2; cases r2
  | true =>
    rw [hq] at r2
    show ((some s₁.abs).bind _).map _ = _
    simp only [Option.bind_some, hq, Option.map_some]
    exact r2
end Mc

namespace Mc
/-- the program -/
noncomputable abbrev PP : Program := PySem.Challenge.pw_iu0043_05
noncomputable def stAt : List Stmt → Nat → Stmt
  | [], _ => .Pass ⟨0, 0, 0, 0⟩
  | x :: _, 0 => x
  | _ :: r, n + 1 => stAt r n
noncomputable def clB : Stmt → List Stmt
  | .ClassDef _ _ _ b _ _ _ _ _ _ _ => b
  | _ => []
/-- a def of the text, a method of it -/
noncomputable def f1 (i : Nat) : Stmt := stAt PP.main.body i
noncomputable def f2 (i j : Nat) : Stmt := stAt (clB (f1 i)) j
/-- the object that a def makes -/
noncomputable def fnO (st : Stmt) (qual : Str) (dv kv doc pm code : Value) : Obj := match st with
  | .FunctionDef name ps body _ _ _ sc _ _ _ => ⟨.type "function", .none, .func ⟨name, qual, ps, .stmts body, sc, 3, [], dv, kv, doc, pm, .none, code, .none, 0⟩, ⟨[]⟩⟩
  | _ => ⟨.none, .none, .plain, ⟨[]⟩⟩
noncomputable abbrev kh : Params → Str → Int := PyData.keyHash
/-- what stands behind the top -/
noncomputable def hK : Params → Frag := fun P =>
(nat_lit 2,⟨.none,.none,.dict ⟨[]⟩ 0,⟨[]⟩⟩) ::
(nat_lit 3,⟨.type "dict",.none,.dict ⟨[⟨(kh P "__name__"),.str "__name__" 165,.str "law_iu0043_05" 690⟩,⟨(kh P "__doc__"),.str "__doc__" 166,.none⟩,⟨(kh P "__package__"),.str "__package__" 167,.none⟩,⟨(kh P "__loader__"),.str "__loader__" 168,.builtin "__main__.__loader__#opaque"⟩,⟨(kh P "__spec__"),.str "__spec__" 169,.none⟩,⟨(kh P "__annotations__"),.str "__annotations__" 170,.ref 6⟩,⟨(kh P "__builtins__"),.str "__builtins__" 171,.ref 4⟩,⟨(kh P "__file__"),.str "__file__" 173,.str "/claim/cut.py" 172⟩,⟨(kh P "__cached__"),.str "__cached__" 174,.none⟩,⟨(kh P "_wall"),.str "_wall" 193,.ref 21⟩,⟨(kh P "insort"),.str "insort" 206,.ref 28⟩,⟨(kh P "KetamaRing"),.str "KetamaRing" 291,.ref 75⟩,⟨(kh P "MetaRing"),.str "MetaRing" 361,.ref 118⟩,⟨(kh P "bisect"),.str "bisect" 374,.ref 129⟩,⟨(kh P "HashRing"),.str "HashRing" 689,.ref 390⟩,⟨(kh P "_law_take"),.str "_law_take" 698,.ref 401⟩,⟨(kh P "law"),.str "law" 704,.ref 406⟩]⟩ 17,⟨[]⟩⟩) ::
(nat_lit 15,⟨.type "tuple",.none,.seq ⟨[]⟩ 0,⟨[]⟩⟩) ::
(nat_lit 17,⟨.type "tuple",.none,.seq ⟨[.str "k" 190]⟩ 0,⟨[]⟩⟩) ::
(nat_lit 18,⟨.type "tuple",.none,.seq ⟨[]⟩ 0,⟨[]⟩⟩) ::
(nat_lit 20,⟨.type "code",.none,.fields ⟨[.str "_wall" 187,.str "_wall" 188,.str "/claim/cut.py" 189,.int 1 0,.int 1 0,.int 0 0,.int 0 0,.int 3 0,.ref 15,.bool .true,.int 181 0,.ref 16,.none,.ref 17,.ref 18,.ref 19,.int 191 0,.int 1 0,.str "/claim/cut.py" 192]⟩,⟨[]⟩⟩) ::
(nat_lit 21,fnO (f1 0) "_wall" .none .none .none (.str "__main__" 164) (.ref 20)) ::
(nat_lit 22,⟨.type "tuple",.none,.seq ⟨[]⟩ 0,⟨[]⟩⟩) ::
(nat_lit 24,⟨.type "tuple",.none,.seq ⟨[.str "rows" 199,.str "one" 200,.str "low" 201,.str "high" 202,.str "mid" 203]⟩ 0,⟨[]⟩⟩) ::
(nat_lit 25,⟨.type "tuple",.none,.seq ⟨[]⟩ 0,⟨[]⟩⟩) ::
(nat_lit 27,⟨.type "code",.none,.fields ⟨[.str "insort" 196,.str "insort" 197,.str "/claim/cut.py" 198,.int 5 0,.int 2 0,.int 0 0,.int 0 0,.int 3 0,.ref 22,.bool .true,.int 181 0,.ref 23,.none,.ref 24,.ref 25,.ref 26,.int 204 0,.int 5 0,.str "/claim/cut.py" 205]⟩,⟨[]⟩⟩) ::
(nat_lit 28,fnO (f1 2) "insort" .none .none .none (.str "uhashring.ring_ketama" 194) (.ref 27)) ::
(nat_lit 36,⟨.type "tuple",.none,.seq ⟨[.int 4 219,.none]⟩ 0,⟨[]⟩⟩) ::
(nat_lit 37,⟨.type "tuple",.none,.seq ⟨[]⟩ 0,⟨[]⟩⟩) ::
(nat_lit 39,⟨.type "tuple",.none,.seq ⟨[.str "self" 223,.str "replicas" 224,.str "md5" 225]⟩ 0,⟨[]⟩⟩) ::
(nat_lit 40,⟨.type "tuple",.none,.seq ⟨[]⟩ 0,⟨[]⟩⟩) ::
(nat_lit 42,⟨.type "code",.none,.fields ⟨[.str "__init__" 220,.str "KetamaRing.__init__" 221,.str "/claim/cut.py" 222,.int 16 0,.int 3 0,.int 0 0,.int 0 0,.int 3 0,.ref 37,.bool .true,.int 181 0,.ref 38,.none,.ref 39,.ref 40,.ref 41,.int 226 0,.int 16 0,.str "/claim/cut.py" 227]⟩,⟨[]⟩⟩) ::
(nat_lit 43,fnO (f2 3 0) "KetamaRing.__init__" (.ref 36) .none .none (.str "uhashring.ring_ketama" 194) (.ref 42)) ::
(nat_lit 44,⟨.type "tuple",.none,.seq ⟨[.int 0 229]⟩ 0,⟨[]⟩⟩) ::
(nat_lit 45,⟨.type "tuple",.none,.seq ⟨[]⟩ 0,⟨[]⟩⟩) ::
(nat_lit 47,⟨.type "tuple",.none,.seq ⟨[.str "self" 233,.str "key" 234,.str "replica" 235,.str "dh" 236,.str "rd" 237]⟩ 0,⟨[]⟩⟩) ::
(nat_lit 48,⟨.type "tuple",.none,.seq ⟨[]⟩ 0,⟨[]⟩⟩) ::
(nat_lit 50,⟨.type "code",.none,.fields ⟨[.str "hashi" 230,.str "KetamaRing.hashi" 231,.str "/claim/cut.py" 232,.int 24 0,.int 3 0,.int 0 0,.int 0 0,.int 3 0,.ref 45,.bool .true,.int 181 0,.ref 46,.none,.ref 47,.ref 48,.ref 49,.int 238 0,.int 24 0,.str "/claim/cut.py" 239]⟩,⟨[]⟩⟩) ::
(nat_lit 51,fnO (f2 3 1) "KetamaRing.hashi" (.ref 44) .none .none (.str "uhashring.ring_ketama" 194) (.ref 50)) ::
(nat_lit 52,⟨.type "tuple",.none,.seq ⟨[]⟩ 0,⟨[]⟩⟩) ::
(nat_lit 54,⟨.type "tuple",.none,.seq ⟨[.str "self" 244,.str "node_name" 245,.str "node_conf" 246,.str "ks" 247,.str "w" 248,.str "w_node_name" 249,.str "i" 250]⟩ 0,⟨[]⟩⟩) ::
(nat_lit 55,⟨.type "tuple",.none,.seq ⟨[]⟩ 0,⟨[]⟩⟩) ::
(nat_lit 57,⟨.type "code",.none,.fields ⟨[.str "_hashi_weight_generator" 241,.str "KetamaRing._hashi_weight_generator" 242,.str "/claim/cut.py" 243,.int 29 0,.int 3 0,.int 0 0,.int 0 0,.int 35 0,.ref 52,.bool .true,.int 181 0,.ref 53,.none,.ref 54,.ref 55,.ref 56,.int 251 0,.int 29 0,.str "/claim/cut.py" 252]⟩,⟨[]⟩⟩) ::
(nat_lit 58,fnO (f2 3 2) "KetamaRing._hashi_weight_generator" .none .none .none (.str "uhashring.ring_ketama" 194) (.ref 57)) ::
(nat_lit 59,⟨.type "tuple",.none,.seq ⟨[]⟩ 0,⟨[]⟩⟩) ::
(nat_lit 61,⟨.type "tuple",.none,.seq ⟨[.str "self" 257,.str "nodes" 258,.str "_weight_sum" 259,.str "node_conf" 260,.str "_distribution" 261,.str "_keys" 262,.str "_ring" 263,.str "node_name" 264,.str "h" 265]⟩ 0,⟨[]⟩⟩) ::
(nat_lit 62,⟨.type "tuple",.none,.seq ⟨[]⟩ 0,⟨[]⟩⟩) ::
(nat_lit 64,⟨.type "code",.none,.fields ⟨[.str "_create_ring" 254,.str "KetamaRing._create_ring" 255,.str "/claim/cut.py" 256,.int 36 0,.int 2 0,.int 0 0,.int 0 0,.int 3 0,.ref 59,.bool .true,.int 181 0,.ref 60,.none,.ref 61,.ref 62,.ref 63,.int 266 0,.int 36 0,.str "/claim/cut.py" 267]⟩,⟨[]⟩⟩) ::
(nat_lit 65,fnO (f2 3 3) "KetamaRing._create_ring" .none .none .none (.str "uhashring.ring_ketama" 194) (.ref 64)) ::
(nat_lit 66,⟨.type "tuple",.none,.seq ⟨[]⟩ 0,⟨[]⟩⟩) ::
(nat_lit 68,⟨.type "tuple",.none,.seq ⟨[.str "self" 272,.str "node_name" 273]⟩ 0,⟨[]⟩⟩) ::
(nat_lit 69,⟨.type "tuple",.none,.seq ⟨[]⟩ 0,⟨[]⟩⟩) ::
(nat_lit 71,⟨.type "code",.none,.fields ⟨[.str "_remove_node" 269,.str "KetamaRing._remove_node" 270,.str "/claim/cut.py" 271,.int 53 0,.int 2 0,.int 0 0,.int 0 0,.int 3 0,.ref 66,.bool .true,.int 181 0,.ref 67,.none,.ref 68,.ref 69,.ref 70,.int 274 0,.int 53 0,.str "/claim/cut.py" 275]⟩,⟨[]⟩⟩) ::
(nat_lit 72,fnO (f2 3 4) "KetamaRing._remove_node" .none .none .none (.str "uhashring.ring_ketama" 194) (.ref 71)) ::
(nat_lit 73,⟨.type "tuple",.none,.seq ⟨[.str "_distribution" 277,.str "_keys" 278,.str "_md5" 279,.str "_nodes" 280,.str "_replicas" 281,.str "_ring" 282,.str "_weight_sum" 283]⟩ 0,⟨[]⟩⟩) ::
(nat_lit 74,⟨.type "dict",.none,.dict ⟨[⟨(kh P "__module__"),.str "__module__" 214,.str "uhashring.ring_ketama" 194⟩,⟨(kh P "__firstlineno__"),.str "__firstlineno__" 218,.int 14 217⟩,⟨(kh P "__init__"),.str "__init__" 228,.ref 43⟩,⟨(kh P "hashi"),.str "hashi" 240,.ref 51⟩,⟨(kh P "_hashi_weight_generator"),.str "_hashi_weight_generator" 253,.ref 58⟩,⟨(kh P "_create_ring"),.str "_create_ring" 268,.ref 65⟩,⟨(kh P "_remove_node"),.str "_remove_node" 276,.ref 72⟩,⟨(kh P "__static_attributes__"),.str "__static_attributes__" 284,.ref 73⟩,⟨(kh P "__dict__"),.str "__dict__" 286,.ref 76⟩,⟨(kh P "__weakref__"),.str "__weakref__" 288,.ref 77⟩,⟨(kh P "__doc__"),.str "__doc__" 289,.none⟩]⟩ 4,⟨[]⟩⟩) ::
(nat_lit 75,⟨.type "type",.none,.cls ⟨"KetamaRing",[.type "object"],[.ref 75,.type "object"],74,"KetamaRing",.true,[],[],.false,.none,.false⟩,⟨[.none,.none,.some (.str "KetamaRing" 207),.some (.str "KetamaRing" 215),.some (.builtin "object.__new__"),.some (.bool .true)]⟩⟩) ::
(nat_lit 76,⟨.type "getset_descriptor",.none,.fields ⟨[.str "__dict__" 285,.ref 75,.builtin "function.__dict__",.builtin "function.__dict__#set"]⟩,⟨[]⟩⟩) ::
(nat_lit 77,⟨.type "getset_descriptor",.none,.fields ⟨[.str "__weakref__" 287,.ref 75,.builtin "ExceptionGroup.__weakref__",.none]⟩,⟨[]⟩⟩) ::
(nat_lit 87,⟨.type "tuple",.none,.seq ⟨[.none]⟩ 0,⟨[]⟩⟩) ::
(nat_lit 88,⟨.type "tuple",.none,.seq ⟨[]⟩ 0,⟨[]⟩⟩) ::
(nat_lit 90,⟨.type "tuple",.none,.seq ⟨[.str "self" 309,.str "hash_fn" 310,.str "md5" 311]⟩ 0,⟨[]⟩⟩) ::
(nat_lit 91,⟨.type "tuple",.none,.seq ⟨[.str "md5" 312]⟩ 0,⟨[]⟩⟩) ::
(nat_lit 93,⟨.type "code",.none,.fields ⟨[.str "__init__" 306,.str "MetaRing.__init__" 307,.str "/claim/cut.py" 308,.int 61 0,.int 3 0,.int 0 0,.int 0 0,.int 3 0,.ref 88,.bool .true,.int 181 0,.ref 89,.none,.ref 90,.ref 91,.ref 92,.int 313 0,.int 61 0,.str "/claim/cut.py" 314]⟩,⟨[]⟩⟩) ::
(nat_lit 94,fnO (f2 5 0) "MetaRing.__init__" (.ref 87) .none .none (.str "uhashring.ring_meta" 292) (.ref 93)) ::
(nat_lit 95,⟨.type "tuple",.none,.seq ⟨[]⟩ 0,⟨[]⟩⟩) ::
(nat_lit 97,⟨.type "tuple",.none,.seq ⟨[.str "self" 319,.str "key" 320]⟩ 0,⟨[]⟩⟩) ::
(nat_lit 98,⟨.type "tuple",.none,.seq ⟨[]⟩ 0,⟨[]⟩⟩) ::
(nat_lit 100,⟨.type "code",.none,.fields ⟨[.str "hashi" 316,.str "MetaRing.hashi" 317,.str "/claim/cut.py" 318,.int 71 0,.int 2 0,.int 0 0,.int 0 0,.int 3 0,.ref 95,.bool .true,.int 181 0,.ref 96,.none,.ref 97,.ref 98,.ref 99,.int 321 0,.int 71 0,.str "/claim/cut.py" 322]⟩,⟨[]⟩⟩) ::
(nat_lit 101,fnO (f2 5 1) "MetaRing.hashi" .none .none .none (.str "uhashring.ring_meta" 292) (.ref 100)) ::
(nat_lit 102,⟨.type "tuple",.none,.seq ⟨[]⟩ 0,⟨[]⟩⟩) ::
(nat_lit 104,⟨.type "tuple",.none,.seq ⟨[.str "self" 327,.str "nodes" 328,.str "node_name" 329,.str "node_conf" 330,.str "old_points" 331,.str "point" 332,.str "new_points" 333,.str "w" 334]⟩ 0,⟨[]⟩⟩) ::
(nat_lit 105,⟨.type "tuple",.none,.seq ⟨[]⟩ 0,⟨[]⟩⟩) ::
(nat_lit 107,⟨.type "code",.none,.fields ⟨[.str "_create_ring" 324,.str "MetaRing._create_ring" 325,.str "/claim/cut.py" 326,.int 74 0,.int 2 0,.int 0 0,.int 0 0,.int 3 0,.ref 102,.bool .true,.int 181 0,.ref 103,.none,.ref 104,.ref 105,.ref 106,.int 335 0,.int 74 0,.str "/claim/cut.py" 336]⟩,⟨[]⟩⟩) ::
(nat_lit 108,fnO (f2 5 2) "MetaRing._create_ring" .none .none .none (.str "uhashring.ring_meta" 292) (.ref 107)) ::
(nat_lit 109,⟨.type "tuple",.none,.seq ⟨[]⟩ 0,⟨[]⟩⟩) ::
(nat_lit 111,⟨.type "tuple",.none,.seq ⟨[.str "self" 341,.str "node_name" 342,.str "points" 343,.str "point" 344]⟩ 0,⟨[]⟩⟩) ::
(nat_lit 112,⟨.type "tuple",.none,.seq ⟨[]⟩ 0,⟨[]⟩⟩) ::
(nat_lit 114,⟨.type "code",.none,.fields ⟨[.str "_remove_node" 338,.str "MetaRing._remove_node" 339,.str "/claim/cut.py" 340,.int 91 0,.int 2 0,.int 0 0,.int 0 0,.int 3 0,.ref 109,.bool .true,.int 181 0,.ref 110,.none,.ref 111,.ref 112,.ref 113,.int 345 0,.int 91 0,.str "/claim/cut.py" 346]⟩,⟨[]⟩⟩) ::
(nat_lit 115,fnO (f2 5 3) "MetaRing._remove_node" .none .none .none (.str "uhashring.ring_meta" 292) (.ref 114)) ::
(nat_lit 116,⟨.type "tuple",.none,.seq ⟨[.str "_distribution" 348,.str "_hash_fn" 349,.str "_keys" 350,.str "_node_points" 351,.str "_nodes" 352,.str "_ring" 353]⟩ 0,⟨[]⟩⟩) ::
(nat_lit 117,⟨.type "dict",.none,.dict ⟨[⟨(kh P "__module__"),.str "__module__" 301,.str "uhashring.ring_meta" 292⟩,⟨(kh P "__firstlineno__"),.str "__firstlineno__" 305,.int 59 304⟩,⟨(kh P "__init__"),.str "__init__" 315,.ref 94⟩,⟨(kh P "hashi"),.str "hashi" 323,.ref 101⟩,⟨(kh P "_create_ring"),.str "_create_ring" 337,.ref 108⟩,⟨(kh P "_remove_node"),.str "_remove_node" 347,.ref 115⟩,⟨(kh P "__static_attributes__"),.str "__static_attributes__" 354,.ref 116⟩,⟨(kh P "__dict__"),.str "__dict__" 356,.ref 119⟩,⟨(kh P "__weakref__"),.str "__weakref__" 358,.ref 120⟩,⟨(kh P "__doc__"),.str "__doc__" 359,.none⟩]⟩ 4,⟨[]⟩⟩) ::
(nat_lit 118,⟨.type "type",.none,.cls ⟨"MetaRing",[.type "object"],[.ref 118,.type "object"],117,"MetaRing",.true,[],[],.false,.none,.false⟩,⟨[.none,.none,.some (.str "MetaRing" 294),.some (.str "MetaRing" 302),.some (.builtin "object.__new__"),.some (.bool .true)]⟩⟩) ::
(nat_lit 119,⟨.type "getset_descriptor",.none,.fields ⟨[.str "__dict__" 355,.ref 118,.builtin "function.__dict__",.builtin "function.__dict__#set"]⟩,⟨[]⟩⟩) ::
(nat_lit 120,⟨.type "getset_descriptor",.none,.fields ⟨[.str "__weakref__" 357,.ref 118,.builtin "ExceptionGroup.__weakref__",.none]⟩,⟨[]⟩⟩) ::
(nat_lit 123,⟨.type "tuple",.none,.seq ⟨[]⟩ 0,⟨[]⟩⟩) ::
(nat_lit 125,⟨.type "tuple",.none,.seq ⟨[.str "rows" 367,.str "one" 368,.str "low" 369,.str "high" 370,.str "mid" 371]⟩ 0,⟨[]⟩⟩) ::
(nat_lit 126,⟨.type "tuple",.none,.seq ⟨[]⟩ 0,⟨[]⟩⟩) ::
(nat_lit 128,⟨.type "code",.none,.fields ⟨[.str "bisect" 364,.str "bisect" 365,.str "/claim/cut.py" 366,.int 103 0,.int 2 0,.int 0 0,.int 0 0,.int 3 0,.ref 123,.bool .true,.int 181 0,.ref 124,.none,.ref 125,.ref 126,.ref 127,.int 372 0,.int 103 0,.str "/claim/cut.py" 373]⟩,⟨[]⟩⟩) ::
(nat_lit 129,fnO (f1 7) "bisect" .none .none .none (.str "uhashring.ring" 362) (.ref 128)) ::
(nat_lit 137,⟨.type "list",.none,.seq ⟨[]⟩ 0,⟨[]⟩⟩) ::
(nat_lit 138,⟨.type "tuple",.none,.seq ⟨[.ref 137]⟩ 0,⟨[]⟩⟩) ::
(nat_lit 139,⟨.type "tuple",.none,.seq ⟨[]⟩ 0,⟨[]⟩⟩) ::
(nat_lit 142,⟨.type "code",.none,.fields ⟨[.str "__init__" 387,.str "HashRing.__init__" 388,.str "/claim/cut.py" 389,.int 114 0,.int 2 0,.int 0 0,.int 0 0,.int 11 0,.ref 139,.bool .true,.int 181 0,.ref 140,.none,.none,.none,.ref 141,.int 390 0,.int 114 0,.str "/claim/cut.py" 391]⟩,⟨[]⟩⟩) ::
(nat_lit 143,fnO (f2 8 0) "HashRing.__init__" (.ref 138) .none .none (.str "uhashring.ring" 362) (.ref 142)) ::
(nat_lit 144,⟨.type "tuple",.none,.seq ⟨[]⟩ 0,⟨[]⟩⟩) ::
(nat_lit 146,⟨.type "tuple",.none,.seq ⟨[.str "self" 396,.str "key" 397]⟩ 0,⟨[]⟩⟩) ::
(nat_lit 147,⟨.type "tuple",.none,.seq ⟨[]⟩ 0,⟨[]⟩⟩) ::
(nat_lit 149,⟨.type "code",.none,.fields ⟨[.str "hashi" 393,.str "HashRing.hashi" 394,.str "/claim/cut.py" 395,.int 134 0,.int 2 0,.int 0 0,.int 0 0,.int 3 0,.ref 144,.bool .true,.int 181 0,.ref 145,.none,.ref 146,.ref 147,.ref 148,.int 398 0,.int 134 0,.str "/claim/cut.py" 399]⟩,⟨[]⟩⟩) ::
(nat_lit 150,fnO (f2 8 1) "HashRing.hashi" .none .none .none (.str "uhashring.ring" 362) (.ref 149)) ::
(nat_lit 151,⟨.type "tuple",.none,.seq ⟨[]⟩ 0,⟨[]⟩⟩) ::
(nat_lit 153,⟨.type "tuple",.none,.seq ⟨[.str "self" 404,.str "nodes" 405,.str "conf_changed" 406,.str "node" 407,.str "conf" 408,.str "current_conf" 409,.str "nodename" 410,.str "node_conf" 411,.str "k" 412,.str "v" 413]⟩ 0,⟨[]⟩⟩) ::
(nat_lit 154,⟨.type "tuple",.none,.seq ⟨[]⟩ 0,⟨[]⟩⟩) ::
(nat_lit 156,⟨.type "code",.none,.fields ⟨[.str "_configure_nodes" 401,.str "HashRing._configure_nodes" 402,.str "/claim/cut.py" 403,.int 137 0,.int 2 0,.int 0 0,.int 0 0,.int 3 0,.ref 151,.bool .true,.int 181 0,.ref 152,.none,.ref 153,.ref 154,.ref 155,.int 414 0,.int 137 0,.str "/claim/cut.py" 415]⟩,⟨[]⟩⟩) ::
(nat_lit 157,fnO (f2 8 2) "HashRing._configure_nodes" .none .none .none (.str "uhashring.ring" 362) (.ref 156)) ::
(nat_lit 158,⟨.type "tuple",.none,.seq ⟨[]⟩ 0,⟨[]⟩⟩) ::
(nat_lit 160,⟨.type "tuple",.none,.seq ⟨[.str "self" 420,.str "nodename" 421]⟩ 0,⟨[]⟩⟩) ::
(nat_lit 161,⟨.type "tuple",.none,.seq ⟨[]⟩ 0,⟨[]⟩⟩) ::
(nat_lit 163,⟨.type "code",.none,.fields ⟨[.str "__delitem__" 417,.str "HashRing.__delitem__" 418,.str "/claim/cut.py" 419,.int 169 0,.int 2 0,.int 0 0,.int 0 0,.int 3 0,.ref 158,.bool .true,.int 181 0,.ref 159,.none,.ref 160,.ref 161,.ref 162,.int 422 0,.int 169 0,.str "/claim/cut.py" 423]⟩,⟨[]⟩⟩) ::
(nat_lit 164,fnO (f2 8 3) "HashRing.__delitem__" .none .none .none (.str "uhashring.ring" 362) (.ref 163)) ::
(nat_lit 165,⟨.type "tuple",.none,.seq ⟨[]⟩ 0,⟨[]⟩⟩) ::
(nat_lit 167,⟨.type "tuple",.none,.seq ⟨[.str "self" 428,.str "nodename" 429]⟩ 0,⟨[]⟩⟩) ::
(nat_lit 168,⟨.type "tuple",.none,.seq ⟨[]⟩ 0,⟨[]⟩⟩) ::
(nat_lit 170,⟨.type "code",.none,.fields ⟨[.str "remove_node" 425,.str "HashRing.remove_node" 426,.str "/claim/cut.py" 427,.int 172 0,.int 2 0,.int 0 0,.int 0 0,.int 3 0,.ref 165,.bool .true,.int 181 0,.ref 166,.none,.ref 167,.ref 168,.ref 169,.int 430 0,.int 172 0,.str "/claim/cut.py" 431]⟩,⟨[]⟩⟩) ::
(nat_lit 171,fnO (f2 8 4) "HashRing.remove_node" .none .none .none (.str "uhashring.ring" 362) (.ref 170)) ::
(nat_lit 172,⟨.type "tuple",.none,.seq ⟨[]⟩ 0,⟨[]⟩⟩) ::
(nat_lit 174,⟨.type "tuple",.none,.seq ⟨[.str "self" 436,.str "key" 437]⟩ 0,⟨[]⟩⟩) ::
(nat_lit 175,⟨.type "tuple",.none,.seq ⟨[]⟩ 0,⟨[]⟩⟩) ::
(nat_lit 177,⟨.type "code",.none,.fields ⟨[.str "__getitem__" 433,.str "HashRing.__getitem__" 434,.str "/claim/cut.py" 435,.int 175 0,.int 2 0,.int 0 0,.int 0 0,.int 3 0,.ref 172,.bool .true,.int 181 0,.ref 173,.none,.ref 174,.ref 175,.ref 176,.int 438 0,.int 175 0,.str "/claim/cut.py" 439]⟩,⟨[]⟩⟩) ::
(nat_lit 178,fnO (f2 8 5) "HashRing.__getitem__" .none .none .none (.str "uhashring.ring" 362) (.ref 177)) ::
(nat_lit 179,⟨.type "tuple",.none,.seq ⟨[]⟩ 0,⟨[]⟩⟩) ::
(nat_lit 181,⟨.type "tuple",.none,.seq ⟨[.str "self" 444,.str "key" 445]⟩ 0,⟨[]⟩⟩) ::
(nat_lit 182,⟨.type "tuple",.none,.seq ⟨[]⟩ 0,⟨[]⟩⟩) ::
(nat_lit 184,⟨.type "code",.none,.fields ⟨[.str "get_node_instance" 441,.str "HashRing.get_node_instance" 442,.str "/claim/cut.py" 443,.int 178 0,.int 2 0,.int 0 0,.int 0 0,.int 3 0,.ref 179,.bool .true,.int 181 0,.ref 180,.none,.ref 181,.ref 182,.ref 183,.int 446 0,.int 178 0,.str "/claim/cut.py" 447]⟩,⟨[]⟩⟩) ::
(nat_lit 185,fnO (f2 8 6) "HashRing.get_node_instance" .none .none .none (.str "uhashring.ring" 362) (.ref 184)) ::
(nat_lit 186,⟨.type "dict",.none,.dict ⟨[⟨(kh P "weight"),.str "weight" 449,.int 1 450⟩]⟩ 1,⟨[]⟩⟩) ::
(nat_lit 187,⟨.type "tuple",.none,.seq ⟨[.ref 186]⟩ 0,⟨[]⟩⟩) ::
(nat_lit 188,⟨.type "tuple",.none,.seq ⟨[]⟩ 0,⟨[]⟩⟩) ::
(nat_lit 190,⟨.type "tuple",.none,.seq ⟨[.str "self" 455,.str "nodename" 456,.str "conf" 457]⟩ 0,⟨[]⟩⟩) ::
(nat_lit 191,⟨.type "tuple",.none,.seq ⟨[]⟩ 0,⟨[]⟩⟩) ::
(nat_lit 193,⟨.type "code",.none,.fields ⟨[.str "__setitem__" 452,.str "HashRing.__setitem__" 453,.str "/claim/cut.py" 454,.int 181 0,.int 3 0,.int 0 0,.int 0 0,.int 3 0,.ref 188,.bool .true,.int 181 0,.ref 189,.none,.ref 190,.ref 191,.ref 192,.int 458 0,.int 181 0,.str "/claim/cut.py" 459]⟩,⟨[]⟩⟩) ::
(nat_lit 194,fnO (f2 8 7) "HashRing.__setitem__" (.ref 187) .none .none (.str "uhashring.ring" 362) (.ref 193)) ::
(nat_lit 195,⟨.type "dict",.none,.dict ⟨[⟨(kh P "weight"),.str "weight" 461,.int 1 462⟩]⟩ 1,⟨[]⟩⟩) ::
(nat_lit 196,⟨.type "tuple",.none,.seq ⟨[.ref 195]⟩ 0,⟨[]⟩⟩) ::
(nat_lit 197,⟨.type "tuple",.none,.seq ⟨[]⟩ 0,⟨[]⟩⟩) ::
(nat_lit 199,⟨.type "tuple",.none,.seq ⟨[.str "self" 467,.str "nodename" 468,.str "conf" 469]⟩ 0,⟨[]⟩⟩) ::
(nat_lit 200,⟨.type "tuple",.none,.seq ⟨[]⟩ 0,⟨[]⟩⟩) ::
(nat_lit 202,⟨.type "code",.none,.fields ⟨[.str "add_node" 464,.str "HashRing.add_node" 465,.str "/claim/cut.py" 466,.int 185 0,.int 3 0,.int 0 0,.int 0 0,.int 3 0,.ref 197,.bool .true,.int 181 0,.ref 198,.none,.ref 199,.ref 200,.ref 201,.int 470 0,.int 185 0,.str "/claim/cut.py" 471]⟩,⟨[]⟩⟩) ::
(nat_lit 203,fnO (f2 8 8) "HashRing.add_node" (.ref 196) .none .none (.str "uhashring.ring" 362) (.ref 202)) ::
(nat_lit 204,⟨.type "tuple",.none,.seq ⟨[]⟩ 0,⟨[]⟩⟩) ::
(nat_lit 206,⟨.type "tuple",.none,.seq ⟨[.str "self" 476,.str "key" 477,.str "p" 478]⟩ 0,⟨[]⟩⟩) ::
(nat_lit 207,⟨.type "tuple",.none,.seq ⟨[]⟩ 0,⟨[]⟩⟩) ::
(nat_lit 209,⟨.type "code",.none,.fields ⟨[.str "_get_pos" 473,.str "HashRing._get_pos" 474,.str "/claim/cut.py" 475,.int 189 0,.int 2 0,.int 0 0,.int 0 0,.int 3 0,.ref 204,.bool .true,.int 181 0,.ref 205,.none,.ref 206,.ref 207,.ref 208,.int 479 0,.int 189 0,.str "/claim/cut.py" 480]⟩,⟨[]⟩⟩) ::
(nat_lit 210,fnO (f2 8 9) "HashRing._get_pos" .none .none .none (.str "uhashring.ring" 362) (.ref 209)) ::
(nat_lit 211,⟨.type "tuple",.none,.seq ⟨[]⟩ 0,⟨[]⟩⟩) ::
(nat_lit 213,⟨.type "tuple",.none,.seq ⟨[.str "self" 485,.str "key" 486,.str "what" 487,.str "pos" 488,.str "nodename" 489]⟩ 0,⟨[]⟩⟩) ::
(nat_lit 214,⟨.type "tuple",.none,.seq ⟨[]⟩ 0,⟨[]⟩⟩) ::
(nat_lit 216,⟨.type "code",.none,.fields ⟨[.str "_get" 482,.str "HashRing._get" 483,.str "/claim/cut.py" 484,.int 196 0,.int 3 0,.int 0 0,.int 0 0,.int 3 0,.ref 211,.bool .true,.int 181 0,.ref 212,.none,.ref 213,.ref 214,.ref 215,.int 490 0,.int 196 0,.str "/claim/cut.py" 491]⟩,⟨[]⟩⟩) ::
(nat_lit 217,fnO (f2 8 10) "HashRing._get" .none .none .none (.str "uhashring.ring" 362) (.ref 216)) ::
(nat_lit 218,⟨.type "tuple",.none,.seq ⟨[]⟩ 0,⟨[]⟩⟩) ::
(nat_lit 220,⟨.type "tuple",.none,.seq ⟨[.str "self" 496,.str "key" 497]⟩ 0,⟨[]⟩⟩) ::
(nat_lit 221,⟨.type "tuple",.none,.seq ⟨[]⟩ 0,⟨[]⟩⟩) ::
(nat_lit 223,⟨.type "code",.none,.fields ⟨[.str "get" 493,.str "HashRing.get" 494,.str "/claim/cut.py" 495,.int 212 0,.int 2 0,.int 0 0,.int 0 0,.int 3 0,.ref 218,.bool .true,.int 181 0,.ref 219,.none,.ref 220,.ref 221,.ref 222,.int 498 0,.int 212 0,.str "/claim/cut.py" 499]⟩,⟨[]⟩⟩) ::
(nat_lit 224,fnO (f2 8 11) "HashRing.get" .none .none .none (.str "uhashring.ring" 362) (.ref 223)) ::
(nat_lit 225,⟨.type "tuple",.none,.seq ⟨[]⟩ 0,⟨[]⟩⟩) ::
(nat_lit 227,⟨.type "tuple",.none,.seq ⟨[.str "self" 504]⟩ 0,⟨[]⟩⟩) ::
(nat_lit 228,⟨.type "tuple",.none,.seq ⟨[]⟩ 0,⟨[]⟩⟩) ::
(nat_lit 230,⟨.type "code",.none,.fields ⟨[.str "get_instances" 501,.str "HashRing.get_instances" 502,.str "/claim/cut.py" 503,.int 215 0,.int 1 0,.int 0 0,.int 0 0,.int 3 0,.ref 225,.bool .true,.int 181 0,.ref 226,.none,.ref 227,.ref 228,.ref 229,.int 505 0,.int 215 0,.str "/claim/cut.py" 506]⟩,⟨[]⟩⟩) ::
(nat_lit 231,fnO (f2 8 12) "HashRing.get_instances" .none .none .none (.str "uhashring.ring" 362) (.ref 230)) ::
(nat_lit 232,⟨.type "tuple",.none,.seq ⟨[]⟩ 0,⟨[]⟩⟩) ::
(nat_lit 234,⟨.type "tuple",.none,.seq ⟨[.str "self" 511,.str "key" 512]⟩ 0,⟨[]⟩⟩) ::
(nat_lit 235,⟨.type "tuple",.none,.seq ⟨[]⟩ 0,⟨[]⟩⟩) ::
(nat_lit 237,⟨.type "code",.none,.fields ⟨[.str "get_key" 508,.str "HashRing.get_key" 509,.str "/claim/cut.py" 510,.int 218 0,.int 2 0,.int 0 0,.int 0 0,.int 3 0,.ref 232,.bool .true,.int 181 0,.ref 233,.none,.ref 234,.ref 235,.ref 236,.int 513 0,.int 218 0,.str "/claim/cut.py" 514]⟩,⟨[]⟩⟩) ::
(nat_lit 238,fnO (f2 8 13) "HashRing.get_key" .none .none .none (.str "uhashring.ring" 362) (.ref 237)) ::
(nat_lit 239,⟨.type "tuple",.none,.seq ⟨[]⟩ 0,⟨[]⟩⟩) ::
(nat_lit 241,⟨.type "tuple",.none,.seq ⟨[.str "self" 519,.str "key" 520]⟩ 0,⟨[]⟩⟩) ::
(nat_lit 242,⟨.type "tuple",.none,.seq ⟨[]⟩ 0,⟨[]⟩⟩) ::
(nat_lit 244,⟨.type "code",.none,.fields ⟨[.str "get_node" 516,.str "HashRing.get_node" 517,.str "/claim/cut.py" 518,.int 221 0,.int 2 0,.int 0 0,.int 0 0,.int 3 0,.ref 239,.bool .true,.int 181 0,.ref 240,.none,.ref 241,.ref 242,.ref 243,.int 521 0,.int 221 0,.str "/claim/cut.py" 522]⟩,⟨[]⟩⟩) ::
(nat_lit 245,fnO (f2 8 14) "HashRing.get_node" .none .none .none (.str "uhashring.ring" 362) (.ref 244)) ::
(nat_lit 246,⟨.type "tuple",.none,.seq ⟨[]⟩ 0,⟨[]⟩⟩) ::
(nat_lit 248,⟨.type "tuple",.none,.seq ⟨[.str "self" 527,.str "key" 528]⟩ 0,⟨[]⟩⟩) ::
(nat_lit 249,⟨.type "tuple",.none,.seq ⟨[]⟩ 0,⟨[]⟩⟩) ::
(nat_lit 251,⟨.type "code",.none,.fields ⟨[.str "get_node_hostname" 524,.str "HashRing.get_node_hostname" 525,.str "/claim/cut.py" 526,.int 224 0,.int 2 0,.int 0 0,.int 0 0,.int 3 0,.ref 246,.bool .true,.int 181 0,.ref 247,.none,.ref 248,.ref 249,.ref 250,.int 529 0,.int 224 0,.str "/claim/cut.py" 530]⟩,⟨[]⟩⟩) ::
(nat_lit 252,fnO (f2 8 15) "HashRing.get_node_hostname" .none .none .none (.str "uhashring.ring" 362) (.ref 251)) ::
(nat_lit 253,⟨.type "tuple",.none,.seq ⟨[]⟩ 0,⟨[]⟩⟩) ::
(nat_lit 255,⟨.type "tuple",.none,.seq ⟨[.str "self" 535,.str "key" 536]⟩ 0,⟨[]⟩⟩) ::
(nat_lit 256,⟨.type "tuple",.none,.seq ⟨[]⟩ 0,⟨[]⟩⟩) ::
(nat_lit 258,⟨.type "code",.none,.fields ⟨[.str "get_node_port" 532,.str "HashRing.get_node_port" 533,.str "/claim/cut.py" 534,.int 227 0,.int 2 0,.int 0 0,.int 0 0,.int 3 0,.ref 253,.bool .true,.int 181 0,.ref 254,.none,.ref 255,.ref 256,.ref 257,.int 537 0,.int 227 0,.str "/claim/cut.py" 538]⟩,⟨[]⟩⟩) ::
(nat_lit 259,fnO (f2 8 16) "HashRing.get_node_port" .none .none .none (.str "uhashring.ring" 362) (.ref 258)) ::
(nat_lit 260,⟨.type "tuple",.none,.seq ⟨[]⟩ 0,⟨[]⟩⟩) ::
(nat_lit 262,⟨.type "tuple",.none,.seq ⟨[.str "self" 543,.str "key" 544]⟩ 0,⟨[]⟩⟩) ::
(nat_lit 263,⟨.type "tuple",.none,.seq ⟨[]⟩ 0,⟨[]⟩⟩) ::
(nat_lit 265,⟨.type "code",.none,.fields ⟨[.str "get_node_pos" 540,.str "HashRing.get_node_pos" 541,.str "/claim/cut.py" 542,.int 230 0,.int 2 0,.int 0 0,.int 0 0,.int 3 0,.ref 260,.bool .true,.int 181 0,.ref 261,.none,.ref 262,.ref 263,.ref 264,.int 545 0,.int 230 0,.str "/claim/cut.py" 546]⟩,⟨[]⟩⟩) ::
(nat_lit 266,fnO (f2 8 17) "HashRing.get_node_pos" .none .none .none (.str "uhashring.ring" 362) (.ref 265)) ::
(nat_lit 267,⟨.type "tuple",.none,.seq ⟨[]⟩ 0,⟨[]⟩⟩) ::
(nat_lit 269,⟨.type "tuple",.none,.seq ⟨[.str "self" 551,.str "key" 552]⟩ 0,⟨[]⟩⟩) ::
(nat_lit 270,⟨.type "tuple",.none,.seq ⟨[]⟩ 0,⟨[]⟩⟩) ::
(nat_lit 272,⟨.type "code",.none,.fields ⟨[.str "get_node_weight" 548,.str "HashRing.get_node_weight" 549,.str "/claim/cut.py" 550,.int 233 0,.int 2 0,.int 0 0,.int 0 0,.int 3 0,.ref 267,.bool .true,.int 181 0,.ref 268,.none,.ref 269,.ref 270,.ref 271,.int 553 0,.int 233 0,.str "/claim/cut.py" 554]⟩,⟨[]⟩⟩) ::
(nat_lit 273,fnO (f2 8 18) "HashRing.get_node_weight" .none .none .none (.str "uhashring.ring" 362) (.ref 272)) ::
(nat_lit 274,⟨.type "tuple",.none,.seq ⟨[]⟩ 0,⟨[]⟩⟩) ::
(nat_lit 276,⟨.type "tuple",.none,.seq ⟨[.str "self" 559]⟩ 0,⟨[]⟩⟩) ::
(nat_lit 277,⟨.type "tuple",.none,.seq ⟨[]⟩ 0,⟨[]⟩⟩) ::
(nat_lit 279,⟨.type "code",.none,.fields ⟨[.str "get_nodes" 556,.str "HashRing.get_nodes" 557,.str "/claim/cut.py" 558,.int 236 0,.int 1 0,.int 0 0,.int 0 0,.int 3 0,.ref 274,.bool .true,.int 181 0,.ref 275,.none,.ref 276,.ref 277,.ref 278,.int 560 0,.int 236 0,.str "/claim/cut.py" 561]⟩,⟨[]⟩⟩) ::
(nat_lit 280,fnO (f2 8 19) "HashRing.get_nodes" .none .none .none (.str "uhashring.ring" 362) (.ref 279)) ::
(nat_lit 281,⟨.type "tuple",.none,.seq ⟨[]⟩ 0,⟨[]⟩⟩) ::
(nat_lit 284,⟨.type "code",.none,.fields ⟨[.str "get_points" 563,.str "HashRing.get_points" 564,.str "/claim/cut.py" 565,.int 239 0,.int 1 0,.int 0 0,.int 0 0,.int 3 0,.ref 281,.bool .true,.int 181 0,.ref 282,.none,.none,.none,.ref 283,.int 566 0,.int 239 0,.str "/claim/cut.py" 567]⟩,⟨[]⟩⟩) ::
(nat_lit 285,fnO (f2 8 20) "HashRing.get_points" .none .none .none (.str "uhashring.ring" 362) (.ref 284)) ::
(nat_lit 286,⟨.type "tuple",.none,.seq ⟨[]⟩ 0,⟨[]⟩⟩) ::
(nat_lit 288,⟨.type "tuple",.none,.seq ⟨[.str "self" 572,.str "key" 573]⟩ 0,⟨[]⟩⟩) ::
(nat_lit 289,⟨.type "tuple",.none,.seq ⟨[]⟩ 0,⟨[]⟩⟩) ::
(nat_lit 291,⟨.type "code",.none,.fields ⟨[.str "get_server" 569,.str "HashRing.get_server" 570,.str "/claim/cut.py" 571,.int 242 0,.int 2 0,.int 0 0,.int 0 0,.int 3 0,.ref 286,.bool .true,.int 181 0,.ref 287,.none,.ref 288,.ref 289,.ref 290,.int 574 0,.int 242 0,.str "/claim/cut.py" 575]⟩,⟨[]⟩⟩) ::
(nat_lit 292,fnO (f2 8 21) "HashRing.get_server" .none .none .none (.str "uhashring.ring" 362) (.ref 291)) ::
(nat_lit 293,⟨.type "tuple",.none,.seq ⟨[.bool .true]⟩ 0,⟨[]⟩⟩) ::
(nat_lit 294,⟨.type "tuple",.none,.seq ⟨[]⟩ 0,⟨[]⟩⟩) ::
(nat_lit 296,⟨.type "tuple",.none,.seq ⟨[.str "self" 580,.str "key" 581,.str "distinct" 582]⟩ 0,⟨[]⟩⟩) ::
(nat_lit 297,⟨.type "tuple",.none,.seq ⟨[]⟩ 0,⟨[]⟩⟩) ::
(nat_lit 299,⟨.type "code",.none,.fields ⟨[.str "iterate_nodes" 577,.str "HashRing.iterate_nodes" 578,.str "/claim/cut.py" 579,.int 245 0,.int 3 0,.int 0 0,.int 0 0,.int 3 0,.ref 294,.bool .true,.int 181 0,.ref 295,.none,.ref 296,.ref 297,.ref 298,.int 583 0,.int 245 0,.str "/claim/cut.py" 584]⟩,⟨[]⟩⟩) ::
(nat_lit 300,fnO (f2 8 22) "HashRing.iterate_nodes" (.ref 293) .none .none (.str "uhashring.ring" 362) (.ref 299)) ::
(nat_lit 301,⟨.type "tuple",.none,.seq ⟨[.none,.bool .true]⟩ 0,⟨[]⟩⟩) ::
(nat_lit 302,⟨.type "tuple",.none,.seq ⟨[]⟩ 0,⟨[]⟩⟩) ::
(nat_lit 304,⟨.type "tuple",.none,.seq ⟨[.str "self" 589,.str "key" 590,.str "size" 591,.str "unique" 592,.str "all_nodes" 593,.str "pos" 594,.str "nodename" 595,.str "i" 596]⟩ 0,⟨[]⟩⟩) ::
(nat_lit 305,⟨.type "tuple",.none,.seq ⟨[]⟩ 0,⟨[]⟩⟩) ::
(nat_lit 307,⟨.type "code",.none,.fields ⟨[.str "range" 586,.str "HashRing.range" 587,.str "/claim/cut.py" 588,.int 248 0,.int 4 0,.int 0 0,.int 0 0,.int 35 0,.ref 302,.bool .true,.int 181 0,.ref 303,.none,.ref 304,.ref 305,.ref 306,.int 597 0,.int 248 0,.str "/claim/cut.py" 598]⟩,⟨[]⟩⟩) ::
(nat_lit 308,fnO (f2 8 23) "HashRing.range" (.ref 301) .none .none (.str "uhashring.ring" 362) (.ref 307)) ::
(nat_lit 309,⟨.type "tuple",.none,.seq ⟨[]⟩ 0,⟨[]⟩⟩) ::
(nat_lit 311,⟨.type "tuple",.none,.seq ⟨[.str "self" 603]⟩ 0,⟨[]⟩⟩) ::
(nat_lit 312,⟨.type "tuple",.none,.seq ⟨[]⟩ 0,⟨[]⟩⟩) ::
(nat_lit 314,⟨.type "code",.none,.fields ⟨[.str "regenerate" 600,.str "HashRing.regenerate" 601,.str "/claim/cut.py" 602,.int 280 0,.int 1 0,.int 0 0,.int 0 0,.int 3 0,.ref 309,.bool .true,.int 181 0,.ref 310,.none,.ref 311,.ref 312,.ref 313,.int 604 0,.int 280 0,.str "/claim/cut.py" 605]⟩,⟨[]⟩⟩) ::
(nat_lit 315,fnO (f2 8 24) "HashRing.regenerate" .none .none .none (.str "uhashring.ring" 362) (.ref 314)) ::
(nat_lit 316,⟨.type "tuple",.none,.seq ⟨[]⟩ 0,⟨[]⟩⟩) ::
(nat_lit 318,⟨.type "tuple",.none,.seq ⟨[.str "self" 610]⟩ 0,⟨[]⟩⟩) ::
(nat_lit 319,⟨.type "tuple",.none,.seq ⟨[]⟩ 0,⟨[]⟩⟩) ::
(nat_lit 321,⟨.type "code",.none,.fields ⟨[.str "conf" 607,.str "HashRing.conf" 608,.str "/claim/cut.py" 609,.int 284 0,.int 1 0,.int 0 0,.int 0 0,.int 3 0,.ref 316,.bool .true,.int 181 0,.ref 317,.none,.ref 318,.ref 319,.ref 320,.int 611 0,.int 284 0,.str "/claim/cut.py" 612]⟩,⟨[]⟩⟩) ::
(nat_lit 322,fnO (f2 8 25) "HashRing.conf" .none .none .none (.str "uhashring.ring" 362) (.ref 321)) ::
(nat_lit 323,⟨.type "property",.none,.fields ⟨[.ref 322,.none,.none,.none,.str "conf" 614,.bool .false]⟩,⟨[]⟩⟩) ::
(nat_lit 324,⟨.type "tuple",.none,.seq ⟨[]⟩ 0,⟨[]⟩⟩) ::
(nat_lit 326,⟨.type "tuple",.none,.seq ⟨[.str "self" 618]⟩ 0,⟨[]⟩⟩) ::
(nat_lit 327,⟨.type "tuple",.none,.seq ⟨[]⟩ 0,⟨[]⟩⟩) ::
(nat_lit 329,⟨.type "code",.none,.fields ⟨[.str "nodes" 615,.str "HashRing.nodes" 616,.str "/claim/cut.py" 617,.int 288 0,.int 1 0,.int 0 0,.int 0 0,.int 3 0,.ref 324,.bool .true,.int 181 0,.ref 325,.none,.ref 326,.ref 327,.ref 328,.int 619 0,.int 288 0,.str "/claim/cut.py" 620]⟩,⟨[]⟩⟩) ::
(nat_lit 330,fnO (f2 8 26) "HashRing.nodes" .none .none .none (.str "uhashring.ring" 362) (.ref 329)) ::
(nat_lit 331,⟨.type "property",.none,.fields ⟨[.ref 330,.none,.none,.none,.str "nodes" 622,.bool .false]⟩,⟨[]⟩⟩) ::
(nat_lit 332,⟨.type "tuple",.none,.seq ⟨[]⟩ 0,⟨[]⟩⟩) ::
(nat_lit 334,⟨.type "tuple",.none,.seq ⟨[.str "self" 626]⟩ 0,⟨[]⟩⟩) ::
(nat_lit 335,⟨.type "tuple",.none,.seq ⟨[]⟩ 0,⟨[]⟩⟩) ::
(nat_lit 337,⟨.type "code",.none,.fields ⟨[.str "distribution" 623,.str "HashRing.distribution" 624,.str "/claim/cut.py" 625,.int 292 0,.int 1 0,.int 0 0,.int 0 0,.int 3 0,.ref 332,.bool .true,.int 181 0,.ref 333,.none,.ref 334,.ref 335,.ref 336,.int 627 0,.int 292 0,.str "/claim/cut.py" 628]⟩,⟨[]⟩⟩) ::
(nat_lit 338,fnO (f2 8 27) "HashRing.distribution" .none .none .none (.str "uhashring.ring" 362) (.ref 337)) ::
(nat_lit 339,⟨.type "property",.none,.fields ⟨[.ref 338,.none,.none,.none,.str "distribution" 630,.bool .false]⟩,⟨[]⟩⟩) ::
(nat_lit 340,⟨.type "tuple",.none,.seq ⟨[]⟩ 0,⟨[]⟩⟩) ::
(nat_lit 342,⟨.type "tuple",.none,.seq ⟨[.str "self" 634]⟩ 0,⟨[]⟩⟩) ::
(nat_lit 343,⟨.type "tuple",.none,.seq ⟨[]⟩ 0,⟨[]⟩⟩) ::
(nat_lit 345,⟨.type "code",.none,.fields ⟨[.str "ring" 631,.str "HashRing.ring" 632,.str "/claim/cut.py" 633,.int 296 0,.int 1 0,.int 0 0,.int 0 0,.int 3 0,.ref 340,.bool .true,.int 181 0,.ref 341,.none,.ref 342,.ref 343,.ref 344,.int 635 0,.int 296 0,.str "/claim/cut.py" 636]⟩,⟨[]⟩⟩) ::
(nat_lit 346,fnO (f2 8 28) "HashRing.ring" .none .none .none (.str "uhashring.ring" 362) (.ref 345)) ::
(nat_lit 347,⟨.type "property",.none,.fields ⟨[.ref 346,.none,.none,.none,.str "ring" 638,.bool .false]⟩,⟨[]⟩⟩) ::
(nat_lit 348,⟨.type "tuple",.none,.seq ⟨[]⟩ 0,⟨[]⟩⟩) ::
(nat_lit 350,⟨.type "tuple",.none,.seq ⟨[.str "self" 642]⟩ 0,⟨[]⟩⟩) ::
(nat_lit 351,⟨.type "tuple",.none,.seq ⟨[]⟩ 0,⟨[]⟩⟩) ::
(nat_lit 353,⟨.type "code",.none,.fields ⟨[.str "continuum" 639,.str "HashRing.continuum" 640,.str "/claim/cut.py" 641,.int 300 0,.int 1 0,.int 0 0,.int 0 0,.int 3 0,.ref 348,.bool .true,.int 181 0,.ref 349,.none,.ref 350,.ref 351,.ref 352,.int 643 0,.int 300 0,.str "/claim/cut.py" 644]⟩,⟨[]⟩⟩) ::
(nat_lit 354,fnO (f2 8 29) "HashRing.continuum" .none .none .none (.str "uhashring.ring" 362) (.ref 353)) ::
(nat_lit 355,⟨.type "property",.none,.fields ⟨[.ref 354,.none,.none,.none,.str "continuum" 646,.bool .false]⟩,⟨[]⟩⟩) ::
(nat_lit 356,⟨.type "tuple",.none,.seq ⟨[]⟩ 0,⟨[]⟩⟩) ::
(nat_lit 358,⟨.type "tuple",.none,.seq ⟨[.str "self" 650]⟩ 0,⟨[]⟩⟩) ::
(nat_lit 359,⟨.type "tuple",.none,.seq ⟨[]⟩ 0,⟨[]⟩⟩) ::
(nat_lit 361,⟨.type "code",.none,.fields ⟨[.str "size" 647,.str "HashRing.size" 648,.str "/claim/cut.py" 649,.int 304 0,.int 1 0,.int 0 0,.int 0 0,.int 3 0,.ref 356,.bool .true,.int 181 0,.ref 357,.none,.ref 358,.ref 359,.ref 360,.int 651 0,.int 304 0,.str "/claim/cut.py" 652]⟩,⟨[]⟩⟩) ::
(nat_lit 362,fnO (f2 8 30) "HashRing.size" .none .none .none (.str "uhashring.ring" 362) (.ref 361)) ::
(nat_lit 363,⟨.type "property",.none,.fields ⟨[.ref 362,.none,.none,.none,.str "size" 654,.bool .false]⟩,⟨[]⟩⟩) ::
(nat_lit 364,⟨.type "tuple",.none,.seq ⟨[]⟩ 0,⟨[]⟩⟩) ::
(nat_lit 366,⟨.type "tuple",.none,.seq ⟨[.str "self" 658]⟩ 0,⟨[]⟩⟩) ::
(nat_lit 367,⟨.type "tuple",.none,.seq ⟨[]⟩ 0,⟨[]⟩⟩) ::
(nat_lit 369,⟨.type "code",.none,.fields ⟨[.str "_ring" 655,.str "HashRing._ring" 656,.str "/claim/cut.py" 657,.int 308 0,.int 1 0,.int 0 0,.int 0 0,.int 3 0,.ref 364,.bool .true,.int 181 0,.ref 365,.none,.ref 366,.ref 367,.ref 368,.int 659 0,.int 308 0,.str "/claim/cut.py" 660]⟩,⟨[]⟩⟩) ::
(nat_lit 370,fnO (f2 8 31) "HashRing._ring" .none .none .none (.str "uhashring.ring" 362) (.ref 369)) ::
(nat_lit 371,⟨.type "property",.none,.fields ⟨[.ref 370,.none,.none,.none,.str "_ring" 662,.bool .false]⟩,⟨[]⟩⟩) ::
(nat_lit 372,⟨.type "tuple",.none,.seq ⟨[]⟩ 0,⟨[]⟩⟩) ::
(nat_lit 374,⟨.type "tuple",.none,.seq ⟨[.str "self" 666]⟩ 0,⟨[]⟩⟩) ::
(nat_lit 375,⟨.type "tuple",.none,.seq ⟨[]⟩ 0,⟨[]⟩⟩) ::
(nat_lit 377,⟨.type "code",.none,.fields ⟨[.str "_nodes" 663,.str "HashRing._nodes" 664,.str "/claim/cut.py" 665,.int 312 0,.int 1 0,.int 0 0,.int 0 0,.int 3 0,.ref 372,.bool .true,.int 181 0,.ref 373,.none,.ref 374,.ref 375,.ref 376,.int 667 0,.int 312 0,.str "/claim/cut.py" 668]⟩,⟨[]⟩⟩) ::
(nat_lit 378,fnO (f2 8 32) "HashRing._nodes" .none .none .none (.str "uhashring.ring" 362) (.ref 377)) ::
(nat_lit 379,⟨.type "property",.none,.fields ⟨[.ref 378,.none,.none,.none,.str "_nodes" 670,.bool .false]⟩,⟨[]⟩⟩) ::
(nat_lit 380,⟨.type "tuple",.none,.seq ⟨[]⟩ 0,⟨[]⟩⟩) ::
(nat_lit 382,⟨.type "tuple",.none,.seq ⟨[.str "self" 674]⟩ 0,⟨[]⟩⟩) ::
(nat_lit 383,⟨.type "tuple",.none,.seq ⟨[]⟩ 0,⟨[]⟩⟩) ::
(nat_lit 385,⟨.type "code",.none,.fields ⟨[.str "_keys" 671,.str "HashRing._keys" 672,.str "/claim/cut.py" 673,.int 316 0,.int 1 0,.int 0 0,.int 0 0,.int 3 0,.ref 380,.bool .true,.int 181 0,.ref 381,.none,.ref 382,.ref 383,.ref 384,.int 675 0,.int 316 0,.str "/claim/cut.py" 676]⟩,⟨[]⟩⟩) ::
(nat_lit 386,fnO (f2 8 33) "HashRing._keys" .none .none .none (.str "uhashring.ring" 362) (.ref 385)) ::
(nat_lit 387,⟨.type "property",.none,.fields ⟨[.ref 386,.none,.none,.none,.str "_keys" 678,.bool .false]⟩,⟨[]⟩⟩) ::
(nat_lit 388,⟨.type "tuple",.none,.seq ⟨[.str "_default_vnodes" 679,.str "_weight_fn" 680,.str "runtime" 681]⟩ 0,⟨[]⟩⟩) ::
(nat_lit 389,⟨.type "dict",.none,.dict ⟨[⟨(kh P "__module__"),.str "__module__" 382,.str "uhashring.ring" 362⟩,⟨(kh P "__firstlineno__"),.str "__firstlineno__" 386,.int 112 385⟩,⟨(kh P "__init__"),.str "__init__" 392,.ref 143⟩,⟨(kh P "hashi"),.str "hashi" 400,.ref 150⟩,⟨(kh P "_configure_nodes"),.str "_configure_nodes" 416,.ref 157⟩,⟨(kh P "__delitem__"),.str "__delitem__" 424,.ref 164⟩,⟨(kh P "remove_node"),.str "remove_node" 432,.ref 171⟩,⟨(kh P "__getitem__"),.str "__getitem__" 440,.ref 178⟩,⟨(kh P "get_node_instance"),.str "get_node_instance" 448,.ref 185⟩,⟨(kh P "__setitem__"),.str "__setitem__" 460,.ref 194⟩,⟨(kh P "add_node"),.str "add_node" 472,.ref 203⟩,⟨(kh P "_get_pos"),.str "_get_pos" 481,.ref 210⟩,⟨(kh P "_get"),.str "_get" 492,.ref 217⟩,⟨(kh P "get"),.str "get" 500,.ref 224⟩,⟨(kh P "get_instances"),.str "get_instances" 507,.ref 231⟩,⟨(kh P "get_key"),.str "get_key" 515,.ref 238⟩,⟨(kh P "get_node"),.str "get_node" 523,.ref 245⟩,⟨(kh P "get_node_hostname"),.str "get_node_hostname" 531,.ref 252⟩,⟨(kh P "get_node_port"),.str "get_node_port" 539,.ref 259⟩,⟨(kh P "get_node_pos"),.str "get_node_pos" 547,.ref 266⟩,⟨(kh P "get_node_weight"),.str "get_node_weight" 555,.ref 273⟩,⟨(kh P "get_nodes"),.str "get_nodes" 562,.ref 280⟩,⟨(kh P "get_points"),.str "get_points" 568,.ref 285⟩,⟨(kh P "get_server"),.str "get_server" 576,.ref 292⟩,⟨(kh P "iterate_nodes"),.str "iterate_nodes" 585,.ref 300⟩,⟨(kh P "range"),.str "range" 599,.ref 308⟩,⟨(kh P "regenerate"),.str "regenerate" 606,.ref 315⟩,⟨(kh P "conf"),.str "conf" 614,.ref 323⟩,⟨(kh P "nodes"),.str "nodes" 622,.ref 331⟩,⟨(kh P "distribution"),.str "distribution" 630,.ref 339⟩,⟨(kh P "ring"),.str "ring" 638,.ref 347⟩,⟨(kh P "continuum"),.str "continuum" 646,.ref 355⟩,⟨(kh P "size"),.str "size" 654,.ref 363⟩,⟨(kh P "_ring"),.str "_ring" 662,.ref 371⟩,⟨(kh P "_nodes"),.str "_nodes" 670,.ref 379⟩,⟨(kh P "_keys"),.str "_keys" 678,.ref 387⟩,⟨(kh P "__static_attributes__"),.str "__static_attributes__" 682,.ref 388⟩,⟨(kh P "__dict__"),.str "__dict__" 684,.ref 391⟩,⟨(kh P "__weakref__"),.str "__weakref__" 686,.ref 392⟩,⟨(kh P "__doc__"),.str "__doc__" 687,.none⟩]⟩ 4,⟨[]⟩⟩) ::
(nat_lit 390,⟨.type "type",.none,.cls ⟨"HashRing",[.type "object"],[.ref 390,.type "object"],389,"HashRing",.true,[],[],.false,.none,.false⟩,⟨[.none,.none,.some (.str "HashRing" 375),.some (.str "HashRing" 383),.some (.builtin "object.__new__"),.some (.bool .true)]⟩⟩) ::
(nat_lit 391,⟨.type "getset_descriptor",.none,.fields ⟨[.str "__dict__" 683,.ref 390,.builtin "function.__dict__",.builtin "function.__dict__#set"]⟩,⟨[]⟩⟩) ::
(nat_lit 392,⟨.type "getset_descriptor",.none,.fields ⟨[.str "__weakref__" 685,.ref 390,.builtin "ExceptionGroup.__weakref__",.none]⟩,⟨[]⟩⟩) ::
(nat_lit 395,⟨.type "tuple",.none,.seq ⟨[]⟩ 0,⟨[]⟩⟩) ::
(nat_lit 397,⟨.type "tuple",.none,.seq ⟨[.str "box" 695]⟩ 0,⟨[]⟩⟩) ::
(nat_lit 398,⟨.type "tuple",.none,.seq ⟨[]⟩ 0,⟨[]⟩⟩) ::
(nat_lit 400,⟨.type "code",.none,.fields ⟨[.str "_law_take" 692,.str "_law_take" 693,.str "/claim/cut.py" 694,.int 320 0,.int 1 0,.int 0 0,.int 0 0,.int 3 0,.ref 395,.bool .true,.int 181 0,.ref 396,.none,.ref 397,.ref 398,.ref 399,.int 696 0,.int 320 0,.str "/claim/cut.py" 697]⟩,⟨[]⟩⟩) ::
(nat_lit 401,fnO (f1 10) "_law_take" .none .none .none (.str "law_iu0043_05" 690) (.ref 400)) ::
(nat_lit 402,⟨.type "tuple",.none,.seq ⟨[]⟩ 0,⟨[]⟩⟩) ::
(nat_lit 405,⟨.type "code",.none,.fields ⟨[.str "law" 699,.str "law" 700,.str "/claim/cut.py" 701,.int 324 0,.int 1 0,.int 0 0,.int 0 0,.int 3 0,.ref 402,.bool .true,.int 181 0,.ref 403,.none,.none,.none,.ref 404,.int 702 0,.int 324 0,.str "/claim/cut.py" 703]⟩,⟨[]⟩⟩) ::
(nat_lit 406,fnO (f1 11) "law" .none .none .none (.str "law_iu0043_05" 690) (.ref 405)) :: []
noncomputable abbrev asK : List Addr := [2, 3, 15, 17, 18, 20, 21, 22, 24, 25, 27, 28, 36, 37, 39, 40, 42, 43, 44, 45, 47, 48, 50, 51, 52, 54, 55, 57, 58, 59, 61, 62, 64, 65, 66, 68, 69, 71, 72, 73, 74, 75, 76, 77, 87, 88, 90, 91, 93, 94, 95, 97, 98, 100, 101, 102, 104, 105, 107, 108, 109, 111, 112, 114, 115, 116, 117, 118, 119, 120, 123, 125, 126, 128, 129, 137, 138, 139, 142, 143, 144, 146, 147, 149, 150, 151, 153, 154, 156, 157, 158, 160, 161, 163, 164, 165, 167, 168, 170, 171, 172, 174, 175, 177, 178, 179, 181, 182, 184, 185, 186, 187, 188, 190, 191, 193, 194, 195, 196, 197, 199, 200, 202, 203, 204, 206, 207, 209, 210, 211, 213, 214, 216, 217, 218, 220, 221, 223, 224, 225, 227, 228, 230, 231, 232, 234, 235, 237, 238, 239, 241, 242, 244, 245, 246, 248, 249, 251, 252, 253, 255, 256, 258, 259, 260, 262, 263, 265, 266, 267, 269, 270, 272, 273, 274, 276, 277, 279, 280, 281, 284, 285, 286, 288, 289, 291, 292, 293, 294, 296, 297, 299, 300, 301, 302, 304, 305, 307, 308, 309, 311, 312, 314, 315, 316, 318, 319, 321, 322, 323, 324, 326, 327, 329, 330, 331, 332, 334, 335, 337, 338, 339, 340, 342, 343, 345, 346, 347, 348, 350, 351, 353, 354, 355, 356, 358, 359, 361, 362, 363, 364, 366, 367, 369, 370, 371, 372, 374, 375, 377, 378, 379, 380, 382, 383, 385, 386, 387, 388, 389, 390, 391, 392, 395, 397, 398, 400, 401, 402, 405, 406]
theorem eK : ∀ P, asK = (hK P).map (·.1) := fun P => by kernel_rfl
noncomputable abbrev tsK : List Addr := [89, 403]
noncomputable abbrev HK : Hook := kmHook hK asK eK tsK
noncomputable abbrev VV : Program := view PP [0, 2, 3, 5, 7, 8, 10, 11]
noncomputable abbrev looseK : List Str := ["HashRing"]
noncomputable abbrev XX (s : Shared) : Bool := xlAt VV [] s && recOk (RowW.records PySem.Challenge.rw_iu0043_05.row.toRowW) s
theorem top_b1 : ∀ P, absHeap (bootT P) 11 (boot_heap P).life = boot_heap P := fun P => by kernel_rfl
theorem top_b2 : ∀ P, ((boot_heap P).isNs mainGlobals, (boot_heap P).objs.size, (boot_heap P).nsMap mainGlobals "__annotations__") = (true, 11, some (.ref 6)) := fun P => by kernel_rfl
theorem top_b3 : opening PP = plainProg PP.main.scope.names := by kernel_rfl
theorem top_b4 : ∀ s, fenceModules? PP s = some s := fun s => by kernel_rfl
theorem top_f : ∀ w : World, (fun os => (topRunT treeTable PP (w.withFollow "special-get-raises" false) 11 (some (.ref 6)) 5606 (bootS w.params 11 os) (topStub PP)).bind fun s => looked PP VV looseK XX HK.obs (boot_heap w.params) s.abs) = fun _ => some (openGood VV looseK, HK.val (w.withFollow "special-get-raises" false)) := fun w => by kernel_rfl
theorem top_t : ∀ w : World, (fun os => (topRunT treeTable PP (w.withFollow "special-get-raises" true) 11 (some (.ref 6)) 5606 (bootS w.params 11 os) (topStub PP)).bind fun s => looked PP VV looseK XX HK.obs (boot_heap w.params) s.abs) = fun _ => some (openGood VV looseK, HK.val (w.withFollow "special-get-raises" true)) := fun w => by kernel_rfl
/-- the top's run -/
theorem top_left : LeftO PP VV looseK XX HK.obs HK.val 5606 :=
  left_of "special-get-raises" top_b3 (by decide +kernel) top_b4 top_b1 top_b2 fun b w => by cases b; exact top_f w; exact top_t w
end Mc

open Mc
set_option hygiene false in
local macro_rules | `(tactic| walk_at "mb") => `(tactic| k_dflt (first | with_reducible apply List.mem_cons_self | (with_reducible apply List.mem_cons_of_mem; walk_at "mb") | ((fail_if_success (with_reducible apply List.mem_cons_of_mem)); first | with_reducible assumption | (with_reducible apply List.mem_append_left; walk_at "mb") | (with_reducible apply List.mem_append_right; walk_at "mb"))))
set_option hygiene false in
local macro_rules | `(tactic| walk_at "up") => `(tactic| k_dflt (first | with_reducible apply Up.head | (with_reducible apply Up.tail; walk_at "up") | (with_reducible apply Up.appL; walk_at "up") | (with_reducible apply Up.appR; walk_at "up")))
set_option hygiene false in
local macro_rules | `(tactic| walk_at "pu") => `(tactic| k_dflt (first | exact Pu.head | (apply Pu.tail; walk_at "pu")))
set_option hygiene false in
local macro_rules | `(tactic| walk_at "du") => `(tactic| k_dflt (first | exact Du.head | (apply Du.tail; walk_at "du")))
set_option hygiene false in
local macro_rules | `(tactic| walk_at "st") => `(tactic| k_dflt (first | with_reducible exact H | exact S.tk H | exact S.tk (S.tk H) | (refine S.tkTo H ?_ ?_ ?_ <;> rfl)))
set_option hygiene false in
local macro_rules | `(tactic| walk_at "key") => `(tactic| k_dflt (first | exact strIs _ _ | exact intIs _ _))
set_option hygiene false in
local macro_rules | `(tactic| walk_at "sub") => `(tactic| first | exact List.Sublist.refl _ | (with_reducible refine List.Sublist.append_left ?_ _; walk_at "sub") | (refine List.Sublist.cons_cons _ ?_; walk_at "sub") | (refine List.Sublist.cons _ ?_; walk_at "sub"))
set_option hygiene false in
local macro_rules | `(tactic| walk_at "er") => `(tactic| k_dflt (first | assumption | exact erRef | exact erInt | exact erStr | exact erNone | exact erBool | exact erBi | exact erTy))
set_option hygiene false in
local macro_rules | `(tactic| walk_at "ers") => `(tactic| k_dflt (first | exact ErL.nil | (apply ErL.cons; (walk_at "er"); (walk_at "ers"))))
set_option hygiene false in
local macro_rules | `(tactic| walk_at "size") => `(tactic| k_dflt (first | omega | (simp only [List.length_map, List.length_cons, List.length_nil, List.length_append, List.length_range]; omega)))
set_option hygiene false in
local macro_rules | `(tactic| walk_at "sysm") => `(tactic| k_dflt (first | exact S.sysm (by walk_at "st") (by walk_at "mb") | with_reducible assumption))
set_option hygiene false in
local macro_rules | `(tactic| walk_at "units") => `(tactic| k_dflt (have hh9 := Rm.units (by assumption); exact hh9))
set_option hygiene false in
local macro_rules | `(tactic| walk_at "kit") => `(tactic| k_dflt (first | with_reducible apply KitV.int | with_reducible apply KitV.str | with_reducible apply KitV.none | exact KitV.of (by walk_at "mb") (by first | with_reducible apply KitP.dict | with_reducible apply KitP.list | with_reducible apply KitP.tup | with_reducible apply KitP.fn)))
set_option hygiene false in
local macro_rules | `(tactic| walk_at "ekl") => `(tactic| k_dflt (first | exact EkL.nil | (apply EkL.cons; (walk_at "er"); (walk_at "ekl"))))
set_option hygiene false in
local macro_rules | `(tactic| walk_at "tyl") => `(tactic| k_dflt (first | exact TyL.nil | (apply TyL.cons; walk_at "tyl")))
set_option hygiene false in
local macro_rules | `(tactic| walk_at "hd") => `(tactic| k_dflt (first | assumption | (have hh9 := Rm.hd (by assumption); exact hh9)))
set_option hygiene false in
local macro_rules | `(tactic| walk_at "ne") => `(tactic| k_dflt (first | exact Ne2.l (by walk_at "mb") | exact Ne2.r (by walk_at "mb") | (apply Ne2.tail; walk_at "ne")))
set_option hygiene false in
local macro_rules | `(tactic| walk_at "ret") => `(tactic| k_dflt (first | refine Ret.int (fun _ => ?_) | refine Ret.ref ?_ | refine Ret.str (fun _ => ?_) | refine Ret.none ?_ | refine Ret.bool ?_ | refine Ret.bi ?_ | refine Ret.ty ?_ | (refine Ret.cases ?_; intro _ _)))
set_option hygiene false in
local macro_rules | `(tactic| walk_at "asm") => `(tactic| with_reducible assumption)
set_option hygiene false in
local macro_rules | `(tactic| walk_at "rf") => `(tactic| k_dflt (rfl))
set_option hygiene false in
local macro_rules | `(tactic| walk_at "kr") => `(tactic| k_dflt (kernel_rfl!))
set_option hygiene false in
local macro_rules | `(tactic| walk_at "wr") => `(tactic| with_unfolding_all rfl)
set_option hygiene false in
local macro_rules | `(tactic| walk_at "in2") => `(tactic| (try clear H); (try clear s); intro s H)
set_option hygiene false in
local macro_rules | `(tactic| walk_at "in3") => `(tactic| (try clear H); (try clear s); intro _ s H)
set_option hygiene false in
local macro_rules | `(tactic| walk_at "in4") => `(tactic| (try clear H); (try clear s); intro _ s _ H)
set_option hygiene false in
local macro_rules | `(tactic| walk_at "in6") => `(tactic| (try clear H); (try clear s); intro _ _ s _ _ H)
set_option hygiene false in
local macro_rules | `(tactic| walk_at "in8") => `(tactic| (try clear H); (try clear s); intro _ _ _ _ _ s _ H)
set_option hygiene false in
local macro_rules | `(tactic| walk_at "in2") => `(tactic| (try clear H); (try clear s); intro s H)
set_option hygiene false in
local macro_rules | `(tactic| walk_at "in3") => `(tactic| (try clear H); (try clear s); intro _ s H)
set_option hygiene false in
local macro_rules | `(tactic| walk_at "in4") => `(tactic| (try clear H); (try clear s); intro _ s _ H)
set_option hygiene false in
local macro_rules | `(tactic| walk_at "in6") => `(tactic| (try clear H); (try clear s); intro _ _ s _ _ H)
set_option hygiene false in
local macro_rules | `(tactic| walk_at "in8") => `(tactic| (try clear H); (try clear s); intro _ _ _ _ _ s _ H)
set_option hygiene false in
local macro_rules | `(tactic| walk_at "eval Name") => `(tactic| (with_reducible refine rd_free (by walk_at "st") (by walk_at "rf") (by walk_at "rf") (by walk_at "rf") (by walk_at "mb") (by walk_at "rf") (by walk_at "rf") ?_; walk_at "ret"))
set_option hygiene false in
local macro_rules | `(tactic| walk_at "eval Name") => `(tactic| (with_reducible refine rd_cell (by walk_at "st") (by walk_at "rf") (by walk_at "rf") (by walk_at "rf") (by walk_at "mb") (by walk_at "rf") ?_; walk_at "ret"))
set_option hygiene false in
local macro_rules | `(tactic| walk_at "eval Name") => `(tactic| (with_reducible refine rd_global (by walk_at "st") (by walk_at "asm") (by walk_at "mb") (by walk_at "rf") (by walk_at "rf") (by walk_at "rf") (by walk_at "rf") (by walk_at "rf") ?_))
set_option hygiene false in
local macro_rules | `(tactic| walk_at "eval Name") => `(tactic| (with_reducible refine rd_local (by walk_at "st") (by walk_at "loc") (by walk_at "mb") (by walk_at "mb") (by walk_at "rf") (by walk_at "rf") (by walk_at "rf") ?_; walk_at "ret"))
set_option hygiene false in
local macro_rules | `(tactic| walk_at "loc") => `(tactic| k_dflt (first | exact callEnv_locals | exact callEnvC_locals | exact compEnv_locals | rfl))
set_option hygiene false in
local macro_rules | `(tactic| walk_at "storeName") => `(tactic| (with_reducible refine st_cell (by walk_at "st") (by walk_at "rf") (by walk_at "rf") (by walk_at "rf") (by walk_at "er") (by walk_at "up") ?_; walk_at "in2"))
set_option hygiene false in
local macro_rules | `(tactic| walk_at "storeName") => `(tactic| (with_reducible refine st_local (by walk_at "st") (by walk_at "loc") (by walk_at "rf") (by walk_at "rf") (by walk_at "er") (by walk_at "mb") (by walk_at "pu") (by walk_at "up") ?_; walk_at "in2"))
set_option hygiene false in
local macro_rules | `(tactic| walk_at "call builtin:len") => `(tactic| (with_reducible refine r_len_list (by walk_at "st") (by walk_at "mb") (by walk_at "size") ?_; walk_at "in3"))
set_option hygiene false in
local macro_rules | `(tactic| walk_at "getAttr ref") => `(tactic| (with_reducible refine rc_prop (by walk_at "st") (by walk_at "asm") (by walk_at "mb") (by walk_at "cls") (by walk_at "mb") (by walk_at "mb") ?_; walk_at "in3"))
set_option hygiene false in
local macro_rules | `(tactic| walk_at "getAttr ref") => `(tactic| (with_reducible refine rc_attr (by walk_at "st") (by walk_at "asm") (by walk_at "mb") (by walk_at "cls") (by walk_at "mb") (by walk_at "mb") (by walk_at "mb") (by walk_at "handed") ?_; walk_at "in2"; walk_at "ret"))
set_option hygiene false in
local macro_rules | `(tactic| walk_at "cls") => `(tactic| k_dflt (first | exact c118 _ | exact c390 _))
set_option hygiene false in
local macro_rules | `(tactic| walk_at "handed") => `(tactic| k_dflt (first | rfl | assumption))
set_option hygiene false in
local macro_rules | `(tactic| walk_at "compareOp In") => `(tactic| (with_reducible refine r_in_t (by walk_at "st") (by walk_at "mb") (by walk_at "key") (by walk_at "sysm") (by walk_at "asm") ?_; walk_at "in2"))
set_option hygiene false in
local macro_rules | `(tactic| walk_at "compareOp NotIn") => `(tactic| (with_reducible refine r_notIn_f (by walk_at "st") (by walk_at "mb") (by walk_at "key") (by walk_at "sysm") (by walk_at "asm") ?_; walk_at "in2"))
set_option hygiene false in
local macro_rules | `(tactic| walk_at "exec Expr") => `(tactic| refine wpAny_Expr_any ?_)
set_option hygiene false in
local macro_rules | `(tactic| walk_at "callWith ref") => `(tactic| with_reducible refine callWith_KW0 (by k_dflt (exact Bs.X (by assumption))) (by k_dflt (kernel_rfl!)) (by k_dflt (rfl)) ?_ (by k_dflt (kernel_rfl)))
set_option hygiene false in
local macro_rules | `(tactic| walk_at "callWith ref") => `(tactic| with_reducible refine callWith_KW (by k_dflt (exact Bs.X (by assumption))) (by k_dflt (kernel_rfl!)) (by k_dflt (rfl)) ?_ (by k_dflt (kernel_rfl)) (by k_dflt (kernel_rfl)))
set_option hygiene false in
local macro_rules | `(tactic| walk_at "callWith ref") => `(tactic| with_reducible refine callWith_K0 (by k_dflt (exact Bs.k (by assumption) (by walk_at "st"))) (by k_dflt (kernel_rfl!)) ?_)
set_option hygiene false in
local macro_rules | `(tactic| walk_at "callWith ref") => `(tactic| with_reducible refine callWith_K (by k_dflt (exact Bs.X (by assumption))) (by k_dflt (kernel_rfl!)) ?_ (by k_dflt (kernel_rfl)) (by k_dflt (kernel_rfl)))
set_option hygiene false in
local macro_rules | `(tactic| walk_at "In") => `(tactic| exact Bs.k (by assumption) (by walk_at "st"))
set_option hygiene false in
local macro_rules | `(tactic| walk_at "getMethod ref") => `(tactic| (with_reducible refine rc_meth_own (by walk_at "st") (by walk_at "asm") (by walk_at "mb") (by walk_at "cls") (by walk_at "mb") (by walk_at "mb") (by walk_at "mb") (by walk_at "handed") ?_; walk_at "in2"; walk_at "ret"))
set_option hygiene false in
local macro_rules | `(tactic| walk_at "getMethod ref") => `(tactic| (with_reducible refine rc_meth (by walk_at "st") (by walk_at "asm") (by walk_at "mb") (by walk_at "cls") (by walk_at "mb") (by walk_at "mb") (by walk_at "kr") ?_))
set_option hygiene false in
local macro_rules | `(tactic| walk_at "getMethod ref") => `(tactic| (with_reducible refine m_list (by walk_at "st") (by walk_at "mb") PySem.F.slot_list_append PySem.F.type_list_append ?_))
set_option hygiene false in
local macro_rules | `(tactic| walk_at "getMethod ref") => `(tactic| (with_reducible refine m_list (by walk_at "st") (by walk_at "mb") PySem.F.slot_list_pop PySem.F.type_list_pop ?_))
set_option hygiene false in
local macro_rules | `(tactic| walk_at "getMethod ref") => `(tactic| (with_reducible refine m_list (by walk_at "st") (by walk_at "mb") PySem.F.slot_list_sort PySem.F.type_list_sort ?_))
set_option hygiene false in
local macro_rules | `(tactic| walk_at "getMethod ref") => `(tactic| (with_reducible refine m_list (by walk_at "st") (by walk_at "mb") PySem.F.slot_list_insert PySem.F.type_list_insert ?_))
set_option hygiene false in
local macro_rules | `(tactic| walk_at "getMethod ref") => `(tactic| (with_reducible refine m_dict (by walk_at "st") (by walk_at "mb") PySem.F.slot_dict_pop PySem.F.type_dict_pop ?_))
set_option hygiene false in
local macro_rules | `(tactic| walk_at "getMethod ref") => `(tactic| (with_reducible refine m_dict (by walk_at "st") (by walk_at "mb") PySem.F.slot_dict_get PySem.F.type_dict_get ?_))
set_option hygiene false in
local macro_rules | `(tactic| walk_at "getMethod ref") => `(tactic| (with_reducible refine m_dict (by walk_at "st") (by walk_at "mb") PySem.F.slot_dict_keys PySem.F.type_dict_keys ?_))
set_option hygiene false in
local macro_rules | `(tactic| walk_at "getMethod ref") => `(tactic| (with_reducible refine m_dict (by walk_at "st") (by walk_at "mb") PySem.F.slot_dict_items PySem.F.type_dict_items ?_))
set_option hygiene false in
local macro_rules | `(tactic| walk_at "getMethod ref") => `(tactic| (with_reducible refine m_dict (by walk_at "st") (by walk_at "mb") PySem.F.slot_dict_values PySem.F.type_dict_values ?_))
set_option hygiene false in
local macro_rules | `(tactic| walk_at "subscriptTail") => `(tactic| (with_reducible refine sub_list (by walk_at "st") (by walk_at "mb") (by walk_at "asm") (by walk_at "asm") (by walk_at "asm") (by walk_at "wr") ?_; walk_at "ret"))
set_option hygiene false in
local macro_rules | `(tactic| walk_at "subscriptTail") => `(tactic| (with_reducible refine sub_dict (by walk_at "st") (by walk_at "mb") (by walk_at "key") (by walk_at "asm") (by walk_at "wr") ?_; walk_at "in2"; walk_at "ret"))
set_option hygiene false in
local macro_rules | `(tactic| walk_at "subscriptTail") => `(tactic| (with_reducible refine sub_dict_m (by walk_at "st") (by walk_at "mb") (by walk_at "key") (by walk_at "mb") (by walk_at "wr") ?_; walk_at "in2"; walk_at "ret"))
set_option hygiene false in
local macro_rules | `(tactic| walk_at "subscriptTail Name Slice ref ref") => `(tactic| (with_reducible refine r_slice_to2 (by with_reducible exact H) (by walk_at "mb") (by walk_at "size") (by walk_at "rf") (by walk_at "rf") (by walk_at "wr") (by k_dflt (intro _; with_unfolding_all rfl)) ?_; walk_at "in3"))
set_option hygiene false in
local macro_rules | `(tactic| walk_at "call type:list") => `(tactic| ((with_reducible show wpAny _ _ (call _ [Value.ref _]) _ _ _); with_reducible refine r_list_list (by walk_at "st") (by walk_at "mb") (by walk_at "size") ?_; walk_at "in3"))
set_option hygiene false in
local macro_rules | `(tactic| walk_at "binaryOp Add") => `(tactic| ((with_reducible show wpAny _ _ (binaryOp _ (Value.ref _) (Value.ref _)) _ _ _); with_reducible refine r_add_lists (by walk_at "st") (by walk_at "mb") (by walk_at "mb") (by walk_at "size") ?_; walk_at "in3"))
set_option hygiene false in
local macro_rules | `(tactic| walk_at "call builtin:dict.get") => `(tactic| ((with_reducible show wpAny _ _ (call _ [_, _, _]) _ _ _); with_reducible refine r_get2_n (by walk_at "st") (by walk_at "mb") (by walk_at "key") (by walk_at "sysm") (by walk_at "asm") ?_; walk_at "in2"))
set_option hygiene false in
local macro_rules | `(tactic| walk_at "call builtin:dict.get") => `(tactic| ((with_reducible show wpAny _ _ (call _ [_, _, _]) _ _ _); with_reducible refine r_get2_s (by walk_at "st") (by walk_at "mb") (by walk_at "key") (by walk_at "sysm") (by walk_at "asm") ?_; walk_at "in2"; walk_at "ret"))
set_option hygiene false in
local macro_rules | `(tactic| walk_at "call builtin:dict.pop") => `(tactic| ((with_reducible show wpAny _ _ (call _ [_, _, _]) _ _ _); with_reducible refine r_pop_none (by walk_at "st") (by walk_at "key") (by walk_at "rf") (by walk_at "sysm") (by walk_at "mb") (by walk_at "asm") ?_; walk_at "in2"))
set_option hygiene false in
local macro_rules | `(tactic| walk_at "call builtin:dict.pop") => `(tactic| ((with_reducible show wpAny _ _ (call _ [_, _, _]) _ _ _); with_reducible refine r_pop2 (by walk_at "st") (by walk_at "key") (by walk_at "rf") (by walk_at "up") (by walk_at "asm") (by walk_at "size") ?_; walk_at "in2"; walk_at "ret"))
set_option hygiene false in
local macro_rules | `(tactic| walk_at "call builtin:dict.pop") => `(tactic| ((with_reducible show wpAny _ _ (call _ [_, _]) _ _ _); with_reducible refine r_pop1 (by walk_at "st") (by walk_at "key") (by walk_at "rf") (by walk_at "up") (by walk_at "asm") (by walk_at "size") ?_; walk_at "in2"; walk_at "ret"))
set_option hygiene false in
local macro_rules | `(tactic| walk_at "delItem ref") => `(tactic| (with_reducible refine r_delItem_s (by walk_at "st") (by walk_at "key") (by walk_at "rf") (by walk_at "up") (by walk_at "asm") (by walk_at "size") ?_; walk_at "in2"))
set_option hygiene false in
local macro_rules | `(tactic| walk_at "call builtin:list.append") => `(tactic| (with_reducible refine r_append (by walk_at "st") (by walk_at "er") (by walk_at "up") (by walk_at "size") ?_; walk_at "in2"))
set_option hygiene false in
local macro_rules | `(tactic| walk_at "truthy ref") => `(tactic| (with_reducible refine r_truthy_list (by walk_at "st") (by walk_at "mb") (by walk_at "size") ?_; walk_at "in2"))
set_option hygiene false in
local macro_rules | `(tactic| walk_at "truthy ref") => `(tactic| (with_reducible refine r_truthy_dict (by walk_at "st") (by walk_at "mb") (by walk_at "sysm") (by walk_at "size") ?_; walk_at "in2"))
set_option hygiene false in
local macro_rules | `(tactic| walk_at "newList") => `(tactic| (with_reducible refine r_newList (by walk_at "st") (by walk_at "ers") (by walk_at "size") ?_; walk_at "in3"))
set_option hygiene false in
local macro_rules | `(tactic| walk_at "newTuple") => `(tactic| (with_reducible refine r_newTuple (by walk_at "st") (by walk_at "ers") (by walk_at "size") ?_; walk_at "in3"))
set_option hygiene false in
local macro_rules | `(tactic| walk_at "setAttr ref") => `(tactic| (with_reducible refine rc_setattr_new (by walk_at "st") (by walk_at "asm") (by walk_at "mb") (by walk_at "cls") (by walk_at "mb") (by walk_at "er") (by walk_at "up") (by walk_at "kr") (by walk_at "size") ?_; walk_at "in2"; (try simp only [List.cons_append, List.nil_append] at *)))
set_option hygiene false in
local macro_rules | `(tactic| walk_at "setAttr ref") => `(tactic| (with_reducible refine rc_setattr_m (by walk_at "st") (by walk_at "asm") (by walk_at "mb") (by walk_at "cls") (by walk_at "mb") (by walk_at "er") (by walk_at "mb") (by walk_at "du") (by walk_at "up") (by walk_at "size") ?_; walk_at "in2"))
set_option hygiene false in
local macro_rules | `(tactic| walk_at "setItem ref") => `(tactic| (with_reducible refine r_setItem (by walk_at "st") (by walk_at "key") (by walk_at "er") (by walk_at "up") (by walk_at "size") ?_; walk_at "in2"))
set_option hygiene false in
local macro_rules | `(tactic| walk_at "setItem ref") => `(tactic| (with_reducible refine r_setItem_m (by walk_at "st") (by walk_at "key") (by walk_at "er") (by walk_at "mb") (by walk_at "du") (by walk_at "up") (by walk_at "size") ?_; walk_at "in2"))
set_option hygiene false in
local macro_rules | `(tactic| walk_at "pyIter ref") => `(tactic| (with_reducible refine it_range (by walk_at "st") (by walk_at "mb") (by walk_at "size") ?_; walk_at "in4"))
set_option hygiene false in
local macro_rules | `(tactic| walk_at "pyIter ref") => `(tactic| (with_reducible refine it_list (by walk_at "st") (by walk_at "mb") ?_; walk_at "in4"))
set_option hygiene false in
local macro_rules | `(tactic| walk_at "le") => `(tactic| k_dflt (refine Nat.le_trans ?_ sizeLine_ge; (try simp only [Str.length_append]); omega))
set_option hygiene false in
local macro_rules | `(tactic| walk_at "formatField str") => `(tactic| (with_reducible refine r_ff_str (by walk_at "st") (by walk_at "size") ?_; walk_at "in3"))
set_option hygiene false in
local macro_rules | `(tactic| walk_at "formatField int") => `(tactic| (with_reducible refine r_ff_int (by walk_at "st") (by walk_at "size") ?_; walk_at "in3"))
set_option hygiene false in
local macro_rules | `(tactic| walk_at "call builtin:dict.items") => `(tactic| (with_reducible refine r_items (by walk_at "st") (by walk_at "mb") (by walk_at "sysm") ?_; walk_at "in3"))
set_option hygiene false in
local macro_rules | `(tactic| walk_at "call builtin:dict.keys") => `(tactic| (with_reducible refine r_keys2 (by walk_at "st") (by walk_at "mb") ?_; walk_at "in3"))
set_option hygiene false in
local macro_rules | `(tactic| walk_at "stl") => `(tactic| k_dflt (first | exact StL.nil | (apply StL.cons; walk_at "stl")))
set_option hygiene false in
local macro_rules | `(tactic| walk_at "compareOp In str ref") => `(tactic| (with_reducible refine r_in_strs (b := true) (by walk_at "st") (by walk_at "mb") (by walk_at "stl") (by k_dflt (first | assumption | kernel_rfl!)) ?_))
set_option hygiene false in
local macro_rules | `(tactic| walk_at "compareOp In str ref") => `(tactic| (with_reducible refine r_in_strs (b := false) (by walk_at "st") (by walk_at "mb") (by walk_at "stl") (by k_dflt (first | assumption | kernel_rfl!)) ?_))
set_option hygiene false in
local macro_rules | `(tactic| walk_at "truthy ref") => `(tactic| (with_reducible refine r_truthy_fn (by walk_at "st") (by walk_at "mb") ?_))
set_option hygiene false in
local macro_rules | `(tactic| walk_at "compareOp Eq ref str") => `(tactic| (with_reducible refine r_eq_fn_str (by walk_at "st") (by walk_at "units") (by walk_at "mb") ?_))
set_option hygiene false in
local macro_rules | `(tactic| walk_at "call builtin:isinstance") => `(tactic| ((with_reducible show wpAny _ _ (call _ [_, Value.type _]) _ _ _); with_reducible refine r_isi_one (b := true) (by walk_at "st") (by walk_at "asm") (by walk_at "kit") (by walk_at "kr") ?_; walk_at "in2"))
set_option hygiene false in
local macro_rules | `(tactic| walk_at "call builtin:isinstance") => `(tactic| ((with_reducible show wpAny _ _ (call _ [_, Value.ref _]) _ _ _); with_reducible refine r_isi_tup2 (b := true) (by walk_at "st") (by walk_at "asm") (by walk_at "kit") (by walk_at "mb") (by walk_at "tyl") (by walk_at "kr") ?_; walk_at "in2"))
set_option hygiene false in
local macro_rules | `(tactic| walk_at "call builtin:isinstance") => `(tactic| ((with_reducible show wpAny _ _ (call _ [_, Value.type _]) _ _ _); with_reducible refine r_isi_one (b := false) (by walk_at "st") (by walk_at "asm") (by walk_at "kit") (by walk_at "kr") ?_; walk_at "in2"))
set_option hygiene false in
local macro_rules | `(tactic| walk_at "call builtin:isinstance") => `(tactic| ((with_reducible show wpAny _ _ (call _ [_, Value.ref _]) _ _ _); with_reducible refine r_isi_tup2 (b := false) (by walk_at "st") (by walk_at "asm") (by walk_at "kit") (by walk_at "mb") (by walk_at "tyl") (by walk_at "kr") ?_; walk_at "in2"))
set_option hygiene false in
local macro_rules | `(tactic| walk_at "eval Dict") => `(tactic| (with_reducible refine r_dict (by walk_at "st") (by walk_at "rf") (by walk_at "rf") (List.cons_ne_nil _ _) (Nat.le_of_ble_eq_true rfl) ?_; walk_at "in3"))
set_option hygiene false in
local macro_rules | `(tactic| walk_at "KdnMade") => `(tactic| (with_reducible refine r_dmade (by walk_at "st") (by walk_at "ekl") (by walk_at "kr") (by walk_at "up") ?_; walk_at "in2"))
set_option hygiene false in
local macro_rules | `(tactic| walk_at "eval Dict") => `(tactic| (with_reducible refine r_dict0 (PySem.strKind _ _) (by walk_at "st") ?_; walk_at "in3"))
set_option hygiene false in
local macro_rules | `(tactic| walk_at "call builtin:sorted") => `(tactic| (with_reducible refine r_sorted_keys (by walk_at "st") (by walk_at "hd") (by walk_at "mb") (by walk_at "mb") (by walk_at "mb") (by walk_at "size") ?_; walk_at "in6"))
set_option hygiene false in
local macro_rules | `(tactic| walk_at "call type:range") => `(tactic| (with_reducible refine r_range1 (by walk_at "st") ?_; walk_at "in3"))
set_option hygiene false in
local macro_rules | `(tactic| walk_at "call type:range") => `(tactic| (with_reducible refine r_range2 (by walk_at "st") ?_; walk_at "in3"))
set_option hygiene false in
local macro_rules | `(tactic| walk_at "exec For") => `(tactic| refine wpAny_For ?_)
set_option hygiene false in
local macro_rules | `(tactic| walk_at "exec Assign") => `(tactic| (with_reducible refine plainObj_wpAny_Assign_Attribute ?_ ?_; rotate_left; with_unfolding_all rfl))
set_option hygiene false in
local macro_rules | `(tactic| walk_at "exec While") => `(tactic| refine wpAny_While ?_)
set_option hygiene false in
local macro_rules | `(tactic| walk_at "pk1") => `(tactic| first | exact Pk1.head | (apply Pk1.tail; walk_at "pk1") | (with_reducible apply Pk1.appR; walk_at "pk1"))
set_option hygiene false in
local macro_rules | `(tactic| walk_at "pick") => `(tactic| first | exact Pks.nil | (apply Pks.cons; (walk_at "pk1"); (walk_at "pick")))
set_option hygiene false in
local macro_rules | `(tactic| walk_at "ite") => `(tactic| first | (with_reducible refine wp_if_pos (by k_dflt (first | assumption | rfl)) ?_) | (with_reducible refine wp_if_neg (by k_dflt (assumption)) ?_))
set_option hygiene false in
local macro_rules | `(tactic| walk_at "te") => `(tactic| first | exact ⟨_, rfl⟩ | exact rfl)

namespace Mc
noncomputable abbrev gl : List (Str × Value) := [("KeyError", .type "KeyError"), ("sorted", .builtin "sorted"), ("range", .type "range"), ("len", .builtin "len"), ("bisect", .ref 129), ("isinstance", .builtin "isinstance"), ("int", .type "int"), ("str", .type "str"), ("dict", .type "dict"), ("list", .type "list"), ("tuple", .type "tuple"), ("set", .type "set"), ("bytes", .type "bytes"), ("ord", .builtin "ord"), ("zip", .type "zip"), ("reversed", .type "reversed"), ("TypeError", .type "TypeError"), ("ValueError", .type "ValueError"), ("KetamaRing", .ref 75), ("MetaRing", .ref 118), ("HashRing", .ref 390), ("_law_take", .ref 401)]
noncomputable abbrev own118 : List Str := ["_distribution", "_keys", "_node_points", "_nodes", "_ring", "_hash_fn"]
noncomputable abbrev ms118 : List (Str × Addr) := [("hashi", 101), ("_create_ring", 108), ("_remove_node", 115)]
theorem c118 (w : World) : ClsOk (hK w.params) 118 own118 ms118 [] where
  pg := by kernel_rfl
  hd := by kernel_rfl
  sa := by kernel_rfl
  po := by kernel_rfl
  own := by
    intro n hn
    repeat (rcases List.mem_cons.mp hn with rfl | hn; exact ⟨by kernel_rfl, by kernel_rfl⟩)
    cases hn
  ms := by
    intro n hn
    repeat (rcases List.mem_cons.mp hn with rfl | hn; exact ⟨by kernel_rfl, by kernel_rfl⟩)
    cases hn
  ps := fun p hp => nomatch hp
noncomputable abbrev own390 : List Str := ["runtime", "_default_vnodes", "_weight_fn"]
noncomputable abbrev ms390 : List (Str × Addr) := [("_configure_nodes", 157), ("remove_node", 171), ("add_node", 203), ("get_points", 285), ("regenerate", 315)]
noncomputable abbrev ps390 : List (Str × Addr × Addr) := [("conf", 323, 322), ("_nodes", 379, 378)]
theorem c390 (w : World) : ClsOk (hK w.params) 390 own390 ms390 ps390 where
  pg := by kernel_rfl
  hd := by kernel_rfl
  sa := by kernel_rfl
  po := by kernel_rfl
  own := by
    intro n hn
    repeat (rcases List.mem_cons.mp hn with rfl | hn; exact ⟨by kernel_rfl, by kernel_rfl⟩)
    cases hn
  ms := by
    intro n hn
    repeat (rcases List.mem_cons.mp hn with rfl | hn; exact ⟨by kernel_rfl, by kernel_rfl⟩)
    cases hn
  ps := by
    intro n hn
    repeat (rcases List.mem_cons.mp hn with rfl | hn; exact ⟨by kernel_rfl, by kernel_rfl, by kernel_rfl, _, rfl⟩)
    cases hn
noncomputable abbrev vi (i : Int) : Value := .int i 0
noncomputable abbrev vs (x : Str) : Value := .str x 0
/-- a point that is the name's goes -/
noncomputable def dropP (name : Str) (rl : List (Int × Value)) (p : Int) : List (Int × Value) := if valueAt rl p = some (vs name) then without rl p else rl
theorem without_len {α : Type} [DecidableEq α] (l : List (α × Value)) (k : α) : (without l k).length ≤ l.length := List.length_filter_le _ _
theorem dropP_len (name : Str) (rl : List (Int × Value)) (p : Int) : (dropP name rl p).length ≤ rl.length := by
  unfold dropP; split
  · exact without_len _ _
  · exact Nat.le_refl _
theorem dropPs_len (name : Str) (ps : List Int) : ∀ rl : List (Int × Value), (ps.foldl (dropP name) rl).length ≤ rl.length := by
  induction ps with
  | nil => intro rl; exact Nat.le_refl _
  | cons p ps ih => intro rl; exact Nat.le_trans (ih _) (dropP_len _ _ _)
noncomputable def Strs (rl : List (Int × Value)) : Prop := ∀ p ∈ rl, ∃ n, p.2 = vs n
theorem Strs.dropP {name : Str} {rl : List (Int × Value)} {p : Int} (h : Strs rl) : Strs (dropP name rl p) := by
  unfold Mc.dropP; split
  · exact fun q hq => h q (List.mem_filter.mp hq).1
  · exact h
theorem Strs.dropPs {name : Str} {ps : List Int} : ∀ {rl : List (Int × Value)}, Strs rl → Strs (ps.foldl (Mc.dropP name) rl) := by
  induction ps with
  | nil => exact id
  | cons p ps ih => exact fun h => ih h.dropP
theorem Strs.at {rl : List (Int × Value)} {p : Int} {X : Value} (h : Strs rl) (hv : valueAt rl p = some X) : ∃ n, X = vs n := by
  unfold valueAt at hv
  obtain ⟨q, hq, rfl⟩ := Option.map_eq_some_iff.mp hv
  exact h q (List.mem_of_find?_eq_some hq)
noncomputable abbrev rtA (dist ka npts nodes rg : Addr) (hh : Value) : List (Str × Value) := [("_distribution", .ref dist), ("_keys", .ref ka), ("_node_points", .ref npts), ("_nodes", .ref nodes), ("_ring", .ref rg), ("_hash_fn", hh)]
theorem int_of_er {v : Value} {i : Int} (he : er v = .int i 0) : ∃ t, v = .int i t := by
  cases v <;> simp [er] at he
  subst he; exact ⟨_, rfl⟩
theorem str_of_er {v : Value} {i : Str} (he : er v = .str i 0) : ∃ t, v = .str i t := by
  cases v <;> simp [er] at he
  subst he; exact ⟨_, rfl⟩
theorem ref_of_er {v : Value} {i : Addr} (he : er v = .ref i) : v = .ref i := by
  cases v <;> simp [er] at he
  rw [he]
/-- the hash handed in: it changes nothing -/
structure HOk (w : World) (C : Cx) (ha : Addr) (hIts : List Item) (h : Str → Int) (dom : Str → Prop) : Prop where
  fn : ∀ its s, S C its s → (∀ p ∈ hIts, p ∈ its) → FnAt ha s.heap
  run : ∀ (A : Around) its s (Q E : Value → Shared → Prop) key t, dom key → Rm A 3 30 → S C its s → (∀ p ∈ hIts, p ∈ its) → (∀ t' s', S C its s' → Q (.int (h key) t') s') → wpAny (model PP w) A (call (.ref ha) [.str key t]) Q E s
noncomputable def keyN (name : Str) (k : Nat) : Str := Str.empty ++ name ++ PySem.Str.ofString "-" ++ PySem.Str.ofString (toString (k : Int))
theorem len_dash : (PySem.Str.ofString "-").length = 1 := by decide +kernel
theorem len_empty : Str.empty.length = 0 := rfl
theorem len_digits {k : Nat} (h : k < 10 ^ 9) : (PySem.Str.ofString (toString (k : Int))).length ≤ 10 := by
  rw [PySem.ofString_length]
  exact int_text_length_le10 (k := 9) (by decide) (by simpa using h)

end Mc

section
set_option hygiene false in
local macro_rules | `(tactic| walk_at "TurnEnd") => `(tactic| k_dflt (refine' TurnEnd.cont ⟨_, _, _, rfl⟩ (S.mono (by walk_at "st") ?_); first | walk_at "sub" | (rotate_left; walk_at "sub") | (rotate_left 2; walk_at "sub") | (rotate_left 3; walk_at "sub")))
set_option hygiene false in
local macro_rules | `(tactic| walk_at "TurnEnd") => `(tactic| k_dflt (refine' TurnEnd.next ⟨_, _, _, rfl⟩ (S.mono (by walk_at "st") ?_); first | walk_at "sub" | (rotate_left; walk_at "sub") | (rotate_left 2; walk_at "sub") | (rotate_left 3; walk_at "sub")))
set_option hygiene false in
local macro_rules | `(tactic| walk_at "TurnEnd") => `(tactic| k_dflt (refine' TurnEnd.cont ⟨_, _, rfl⟩ (S.mono (by walk_at "st") ?_); first | walk_at "sub" | (rotate_left; walk_at "sub") | (rotate_left 2; walk_at "sub") | (rotate_left 3; walk_at "sub")))
set_option hygiene false in
local macro_rules | `(tactic| walk_at "TurnEnd") => `(tactic| k_dflt (refine' TurnEnd.next ⟨_, _, rfl⟩ (S.mono (by walk_at "st") ?_); first | walk_at "sub" | (rotate_left; walk_at "sub") | (rotate_left 2; walk_at "sub") | (rotate_left 3; walk_at "sub")))
set_option hygiene false in
local macro_rules | `(tactic| walk_at "TurnEnd") => `(tactic| k_dflt (refine' TurnEnd.cont ⟨_, rfl⟩ (S.mono (by walk_at "st") ?_); first | walk_at "sub" | (rotate_left; walk_at "sub") | (rotate_left 2; walk_at "sub") | (rotate_left 3; walk_at "sub")))
set_option hygiene false in
local macro_rules | `(tactic| walk_at "TurnEnd") => `(tactic| k_dflt (refine' TurnEnd.next ⟨_, rfl⟩ (S.mono (by walk_at "st") ?_); first | walk_at "sub" | (rotate_left; walk_at "sub") | (rotate_left 2; walk_at "sub") | (rotate_left 3; walk_at "sub")))
namespace Mc
theorem none_of_er {v : Value} (h : er v = .none) : v = .none := by cases v <;> simp [er] at h <;> rfl
theorem Strs.opt {rl : List (Int × Value)} (h : Strs rl) (p : Int) : valueAt rl p = none ∨ ∃ n, valueAt rl p = some (vs n) := by
  cases hv : valueAt rl p with
  | none => exact .inl rfl
  | some Y => obtain ⟨n, rfl⟩ := h.at hv; exact .inr ⟨n, rfl⟩
/-- a name or None against a name -/
theorem eq_sc {w : World} {A : Around} {E : Value → Shared → Prop} {s : Shared} {Q : Value → Shared → Prop} {u : Value} {X : Option Value} {name : Str} {t : Tok} (hu : er u = er (X.getD .none)) (hX : X = none ∨ ∃ n, X = some (vs n)) (h : Q (.bool (decide (X = some (vs name)))) s) :
    wpAny (model PP w) A (compareOp .Eq u (.str name t)) Q E s := by
  rcases hX with rfl | ⟨n, rfl⟩
  · obtain rfl := none_of_er hu
    rw [decide_eq_false (by simp)] at h
    walk1
    exact h
  · obtain ⟨t2, rfl⟩ := str_of_er hu
    have e : decide (some (vs n) = some (vs name)) = (n == name) := by
      by_cases q : n = name
      · subst q; simp
      · rw [decide_eq_false (fun e => q (by simpa [vs] using e))]; symm; simpa using q
    rw [e] at h
    walk1
    exact h
theorem rm (w : World) (C : Cx) (hB : Bs PP w (hK w.params) gl C) (rt rtd dist ka npts nodes rg l : Addr) (dl : List (Str × Value)) (nl pl : List (Str × Value)) (rl : List (Int × Value)) (ks : List Value) (ps : List Int) (name : Str) (t : Tok)
   (ndr : Addr) (hh : Value) (hn : valueAt nl name = some (.ref ndr)) (hp : valueAt pl name = some (.ref l)) (X : Int) (hd : valueAt dl name = some (.int X 0)) (h1 : (nodes == sysModules) = false) (h2 : (rg == sysModules) = false)
  (l1 : nl.length ≤ 1000) (l2 : pl.length ≤ 1000) (l3 : dl.length ≤ 1000) (l4 : rl.length < 64) (hst : Strs rl) :
  T3 PP w C 1 10 [(rt, InstI 118 rtd), (rtd, DictI (sk PP w) (rtA dist ka npts nodes rg hh) none),
    (dist, DictI (sk PP w) dl none), (ka, ListI ks), (npts, DictI (sk PP w) pl none), (nodes, DictI (sk PP w) nl none), (rg, DictI (ik PP w) rl none), (l, ListI (ps.map vi))] (call (.ref 115) [.ref rt, .str name t])
    (fun v P' => v = .none ∧ ∃ (ka' : Addr) (ns : List Int), ns.Perm ((ps.foldl (dropP name) rl).map (·.1)) ∧ ns.Pairwise (· ≤ ·) ∧ P' = [(rt, InstI 118 rtd), (rtd, DictI (sk PP w) (rtA dist ka' npts nodes rg hh) none),
    (dist, DictI (sk PP w) (without dl name) none), (ka', ListI (ns.map vi)), (npts, DictI (sk PP w) (without pl name) none), (nodes, DictI (sk PP w) (without nl name) none), (rg, DictI (ik PP w) (ps.foldl (dropP name) rl) none)]) := by
  intro A rest s Q E hA H hQ
  simp only [List.cons_append, List.nil_append] at H
  refine wpAny_call ?_
  refine call_fnL H hB (hB.k H 115 _ rfl) rfl (codeRec_of (hB.k H) (by kernel_rfl)) rfl hA (BindsTo.of_eq rfl) (by kernel_rfl) (by kernel_rfl) (loc := [("self", some (.ref rt)), ("node_name", some (.str name 0)), ("points", none), ("point", none)]) (by kernel_rfl) rfl ?_
  intro L s A1 E1 hA1 H env
  repeat' walk1
  rename_i it hit
  refine for_nx1 (nx_list l (ps.map vi) hit) hA1.hd (fun i its' => ∃ pv, its' = [(L, NsI [("self", some (.ref rt)), ("node_name", some (.str name 0)), ("points", some (.ref l)), ("point", pv)]), (rt, InstI 118 rtd), (rtd, DictI (sk PP w) (rtA dist ka npts nodes rg hh) none),
    (dist, DictI (sk PP w) (without dl name) none), (ka, ListI ks), (npts, DictI (sk PP w) (without pl name) none), (nodes, DictI (sk PP w) (without nl name) none), (rg, DictI (ik PP w) ((ps.take i).foldl (dropP name) rl) none), (l, ListI (ps.map vi))] ++ rest) ?_ ⟨none, rfl⟩ H ?_ ?_
  · rintro i l' ⟨pv, rfl⟩
    walk_at "mb"
  · rintro i v l' s E' hi ⟨X', hx, he⟩ ⟨pv, rfl⟩ H QI hQI
    simp only [List.cons_append, List.nil_append] at H
    rw [List.length_map] at hi
    rw [List.getElem?_map, List.getElem?_eq_getElem hi] at hx
    cases hx
    obtain ⟨t, rfl⟩ : ∃ t, v = .int ps[i] t := by
      cases v <;> simp [er, vi] at he
      subst he; exact ⟨_, rfl⟩
    have hlen := dropPs_len name (ps.take i) rl
    have hs := Strs.dropPs (name := name) (ps := ps.take i) hst
    have hstep : (ps.take (i + 1)).foldl (dropP name) rl = dropP name ((ps.take i).foldl (dropP name) rl) ps[i] := by
      rw [List.take_add_one, List.getElem?_eq_getElem hi, List.foldl_append]; rfl
    rw [hstep] at hQI
    generalize (ps.take i).foldl (dropP name) rl = rr at *
    iterate 13 walk1
    refine r_get1 (by walk_at "st") (by walk_at "key") h2 (by walk_at "mb") fun s H => Ret.cases fun u hu => ?_
    iterate 1 walk1
    refine eq_sc hu (hs.opt _) ?_
    have hff : ¬ false = true := Bool.false_ne_true
    by_cases hg : valueAt rr ps[i] = some (vs name)
    · rw [decide_eq_true hg]
      rw [show dropP name rr ps[i] = without rr ps[i] from if_pos hg] at hQI
      repeat' walk1
      exact hQI _ _ (TurnEnd.next ⟨_, rfl⟩ (S.tkTo H rfl rfl rfl))
    · rw [decide_eq_false hg]
      rw [show dropP name rr ps[i] = rr from if_neg hg] at hQI
      repeat' walk1
      exact hQI _ _ (TurnEnd.next ⟨_, rfl⟩ (S.tkTo H rfl rfl rfl))
  · rintro l' s E' ⟨pv, rfl⟩ H
    simp only [List.cons_append, List.nil_append] at H
    rw [List.take_of_length_le (by simp)] at H
    have hlen := dropPs_len name ps rl
    repeat' walk1
    exact hQ _ _ _ ⟨rfl, _, _, by assumption, by assumption, rfl⟩ (S.pick (by walk_at "st") (by walk_at "pick") (by walk_at "sub"))
theorem hashi_ok (w : World) (C : Cx) (hB : Bs PP w (hK w.params) gl C) (rt rtd dist ka npts nodes rg ha : Addr) (hIts : List Item) (h : Str → Int) (dom : Str → Prop) (hh : HOk w C ha hIts h dom)
   (A : Around) (its : List Item) (s : Shared) (Q E : Value → Shared → Prop) (key : Str) (t : Tok) (hk : dom key) (hA : Rm A 4 40) (H : S C its s) (hi : ∀ p ∈ hIts, p ∈ its) (h1 : (rt, InstI 118 rtd) ∈ its) (h2 : (rtd, DictI (sk PP w) (rtA dist ka npts nodes rg (.ref ha)) none) ∈ its)
   (hQ : ∀ t' s', S C its s' → Q (.int (h key) t') s') : wpAny (model PP w) A (call (.ref 101) [.ref rt, .str key t]) Q E s := by
  refine wpAny_call ?_
  refine call_fnL H hB (hB.k H 101 _ rfl) rfl (codeRec_of (hB.k H) (by kernel_rfl)) rfl hA (BindsTo.of_eq rfl) (by kernel_rfl) (by kernel_rfl) (loc := [("self", some (.ref rt)), ("key", some (.str key 0))]) (by kernel_rfl) rfl ?_
  intro L s A1 E1 hA1 H env
  have hi' : ∀ {q : Item} , ∀ p ∈ hIts, p ∈ q :: its := fun p hp => .tail _ (hi p hp)
  repeat' walk1
  refine callWith_F (hh.fn _ _ (by assumption) hi') ?_
  repeat' walk1
  · exact hh.fn _ _ (by assumption) hi'
  · exact hh.run _ _ _ _ _ _ _ hk (hA1.le (by decide) (by decide)) (by assumption) hi' fun t' s' H' => hQ _ _ H'.tail

end Mc
end

namespace Mc
structure MS where
  dl : List (Str × Value)
  pl : List (Str × Addr × List Int)
  rl : List (Int × Value)
noncomputable abbrev Pl := List (Str × Addr × List Int)
noncomputable def plK (pl : Pl) : List (Str × Value) := pl.map fun p => (p.1, .ref p.2.1)
noncomputable def ptsIts (pl : Pl) : List Item := pl.map fun p => (p.2.1, ListI (p.2.2.map vi))
noncomputable def plW (pl : Pl) (name : Str) : Pl := pl.filter fun p => decide (p.1 ≠ name)
noncomputable def olds (pl : Pl) (name : Str) : List Int := ((pl.find? fun p => decide (p.1 = name)).map (·.2.2)).getD []
noncomputable def layR (h : Str → Int) (name : Str) (cnt : Nat) (rl : List (Int × Value)) : List (Int × Value) := (List.range cnt).foldl (fun rl k => stored rl (h (keyN name k)) (vs name)) rl
noncomputable def distK (dl : List (Str × Value)) (name : Str) (k : Nat) : List (Str × Value) := if k = 0 then dl else dl ++ [(name, vi k)]
noncomputable def layF (h : Str → Int) (name : Str) (cnt : Nat) (a : Addr) (m : MS) : MS :=
  { dl := without m.dl name ++ [(name, vi cnt)], pl := plW m.pl name ++ [(name, a, (List.range cnt).map fun k => h (keyN name k))], rl := layR h name cnt ((olds m.pl name).foldl (dropP name) m.rl) }
structure El where
  name : Str
  cn : Addr
  v : Int
  wt : Int
noncomputable def El.cnt (e : El) : Nat := (e.v * e.wt - 0).toNat
inductive Lays (h : Str → Int) (m : MS) : List El → MS → Prop
  | nil : Lays h m [] m
  | snoc {es e a m'} : Lays h m es m' → Lays h m (es ++ [e]) (layF h e.name e.cnt a m')
structure Good (m : MS) : Prop where
  nd : (m.pl.map (·.1)).Nodup
  sub : ∀ n, n ∈ m.dl.map (·.1) → n ∈ m.pl.map (·.1)
  ne : ∀ p ∈ m.pl, p.2.2 ≠ []
  st : Strs m.rl
  has : ∀ n, n ∈ m.pl.map (·.1) → ∃ c : Int, valueAt m.dl n = some (vi c)
  sh : ∀ p ∈ m.pl, p.2.2.length ≤ 1000000
noncomputable def ConfOk (w : World) (rest : List Item) (e : El) : Prop := ∃ kvs, (e.cn, DictI (sk PP w) kvs none) ∈ rest ∧ valueAt kvs "vnodes" = some (vi e.v) ∧ valueAt kvs "weight" = some (vi e.wt) ∧ 1 ≤ e.v ∧ e.v ≤ 1000 ∧ 1 ≤ e.wt ∧ e.wt ≤ 1000

theorem valueAt_isSome {α : Type} [DecidableEq α] {l : List (α × Value)} {k : α} : (valueAt l k).isSome = true ↔ k ∈ l.map (·.1) := by
  unfold valueAt
  rw [Option.isSome_map, List.find?_isSome]
  constructor
  · rintro ⟨p, hp, e⟩; exact List.mem_map.mpr ⟨p, hp, of_decide_eq_true e⟩
  · intro h; obtain ⟨p, hp, e⟩ := List.mem_map.mp h; exact ⟨p, hp, decide_eq_true e⟩
theorem valueAt_none {α : Type} [DecidableEq α] {l : List (α × Value)} {k : α} (h : k ∉ l.map (·.1)) : valueAt l k = none := by
  unfold valueAt
  rw [Option.map_eq_none_iff, List.find?_eq_none]
  intro p hp e
  exact h (by rw [← of_decide_eq_true e]; exact List.mem_map_of_mem (f := (·.1)) hp)
theorem without_none {α : Type} [DecidableEq α] {l : List (α × Value)} {k : α} (h : k ∉ l.map (·.1)) : without l k = l := without_of_not_mem l k h
theorem without_keys {α : Type} [DecidableEq α] {l : List (α × Value)} {k j : α} : j ∈ (without l k).map (·.1) ↔ j ∈ l.map (·.1) ∧ j ≠ k := by
  unfold without
  simp only [List.mem_map, List.mem_filter, decide_eq_true_eq]
  constructor
  · rintro ⟨p, ⟨h1, h2⟩, rfl⟩; exact ⟨⟨p, h1, rfl⟩, h2⟩
  · rintro ⟨⟨p, h1, rfl⟩, h2⟩; exact ⟨p, ⟨h1, h2⟩, rfl⟩
theorem plK_keys {pl : Pl} : (plK pl).map (·.1) = pl.map (·.1) := by unfold plK; rw [List.map_map]; rfl
theorem plK_without {pl : Pl} {name : Str} : without (plK pl) name = plK (plW pl name) := by unfold plK plW without; rw [List.filter_map]; rfl
theorem plW_none {pl : Pl} {name : Str} (h : name ∉ pl.map (·.1)) : plW pl name = pl := by
  unfold plW
  rw [List.filter_eq_self]
  intro p hp
  simp only [decide_eq_true_eq]
  exact fun e => h (by rw [← e]; exact List.mem_map_of_mem (f := (·.1)) hp)
theorem plW_mid {pl1 pl2 : Pl} {name : Str} {l : Addr} {ps : List Int} (nd : ((pl1 ++ (name, l, ps) :: pl2).map (·.1)).Nodup) : plW (pl1 ++ (name, l, ps) :: pl2) name = pl1 ++ pl2 := by
  rw [List.map_append, List.map_cons, List.nodup_append, List.nodup_cons] at nd
  obtain ⟨n1, ⟨n2, n3⟩, n4⟩ := nd
  have e1 : plW pl1 name = pl1 := plW_none fun h => n4 _ h _ (.head _) rfl
  have e2 : plW pl2 name = pl2 := plW_none n2
  unfold plW at *
  rw [List.filter_append, List.filter_cons, e1, e2]
  simp
theorem olds_none {pl : Pl} {name : Str} (h : name ∉ pl.map (·.1)) : olds pl name = [] := by
  unfold olds
  rw [List.find?_eq_none.mpr fun p hp e => h (by rw [← of_decide_eq_true e]; exact List.mem_map_of_mem (f := (·.1)) hp)]
  rfl
theorem olds_mid {pl1 pl2 : Pl} {name : Str} {l : Addr} {ps : List Int} (nd : ((pl1 ++ (name, l, ps) :: pl2).map (·.1)).Nodup) : olds (pl1 ++ (name, l, ps) :: pl2) name = ps := by
  rw [List.map_append, List.map_cons, List.nodup_append, List.nodup_cons] at nd
  obtain ⟨n1, ⟨n2, n3⟩, n4⟩ := nd
  unfold olds
  rw [List.find?_append, List.find?_eq_none.mpr fun p hp e => n4 p.1 (List.mem_map_of_mem (f := (·.1)) hp) name (.head _) (of_decide_eq_true e)]
  rw [Option.none_or, List.find?_cons, decide_eq_true rfl]
  rfl
theorem distK_step {dl : List (Str × Value)} {name : Str} {k : Nat} (h : name ∉ dl.map (·.1)) : stored (distK dl name k) name (vi ((k : Int) + 1)) = distK dl name (k + 1) := by
  unfold distK
  rw [if_neg (Nat.succ_ne_zero k)]
  have hc : (dl.map (·.1)).contains name = false := by
    cases q : (dl.map (·.1)).contains name with
    | false => rfl
    | true => exact absurd (List.contains_iff_mem.mp q) h
  by_cases hk : k = 0
  · subst hk; rw [if_pos rfl, stored_new hc]; rfl
  · rw [if_neg hk]
    unfold stored
    rw [List.any_append, show ([(name, vi (k : Int))].any fun kv => decide (kv.1 = name)) = true from by simp, Bool.or_true, if_pos rfl, List.map_append, map_store_of_not_mem dl name _ h]
    simp
theorem distK_at {dl : List (Str × Value)} {name : Str} {k : Nat} (h : name ∉ dl.map (·.1)) : valueAt (distK dl name k) name = if k = 0 then none else some (vi k) := by
  unfold distK
  by_cases hk : k = 0
  · rw [if_pos hk, if_pos hk]; exact valueAt_none h
  · rw [if_neg hk, if_neg hk]
    unfold valueAt
    rw [List.find?_append, List.find?_eq_none.mpr fun p hp e => h (by rw [← of_decide_eq_true e]; exact List.mem_map_of_mem (f := (·.1)) hp)]
    simp
theorem valueAt_app_ne {α : Type} [DecidableEq α] {l : List (α × Value)} {k j : α} {v : Value} (h : j ≠ k) : valueAt (l ++ [(k, v)]) j = valueAt l j := by
  unfold valueAt
  rw [List.find?_append]
  have : (List.find? (fun kv : α × Value => decide (kv.1 = j)) [(k, v)]) = none := by simp [Ne.symm h]
  rw [this, Option.or_none]
theorem valueAt_without {α : Type} [DecidableEq α] {l : List (α × Value)} {k j : α} (h : j ≠ k) : valueAt (without l k) j = valueAt l j := by
  unfold valueAt without
  rw [List.find?_filter]
  congr 2
  funext p
  by_cases q : p.1 = j
  · subst q; simp [h]
  · simp [q]
theorem layR_step {h : Str → Int} {name : Str} {k : Nat} {rl : List (Int × Value)} : layR h name (k + 1) rl = stored (layR h name k rl) (h (keyN name k)) (vs name) := by
  unfold layR; rw [List.range_succ, List.foldl_append]; rfl
theorem stored_len {α : Type} [DecidableEq α] (l : List (α × Value)) (k : α) (v : Value) : (stored l k v).length ≤ l.length + 1 := by unfold stored; split <;> simp
theorem layR_len (h : Str → Int) (name : Str) (rl : List (Int × Value)) : ∀ k, (layR h name k rl).length ≤ rl.length + k
  | 0 => Nat.le_refl _
  | k + 1 => by rw [layR_step]; have := stored_len (layR h name k rl) (h (keyN name k)) (vs name); have := layR_len h name rl k; omega
theorem Strs.stored {rl : List (Int × Value)} {p : Int} {n : Str} (h : Strs rl) : Strs (stored rl p (vs n)) := by
  intro q hq
  unfold PySem.stored at hq
  split at hq
  · obtain ⟨r, hr, rfl⟩ := List.mem_map.mp hq
    split
    · exact ⟨n, rfl⟩
    · exact h r hr
  · rcases List.mem_append.mp hq with hq | hq
    · exact h q hq
    · rw [List.mem_singleton] at hq; subst hq; exact ⟨n, rfl⟩
theorem Strs.layR {h : Str → Int} {name : Str} {rl : List (Int × Value)} (hs : Strs rl) : ∀ k, Strs (layR h name k rl)
  | 0 => hs
  | k + 1 => by rw [layR_step]; exact (hs.layR k).stored
theorem Good.layF {h : Str → Int} {name : Str} {cnt : Nat} {a : Addr} {m : MS} (g : Good m) (hc : 1 ≤ cnt ∧ cnt ≤ 1000000) : Good (layF h name cnt a m) := by
  have hnot : name ∉ (plW m.pl name).map (·.1) := by
    unfold plW
    intro h
    obtain ⟨p, hp, e⟩ := List.mem_map.mp h
    exact (of_decide_eq_true (List.mem_filter.mp hp).2) e
  refine ⟨?_, ?_, ?_, ?_, ?_, ?_⟩
  · show ((plW m.pl name ++ _).map _).Nodup
    rw [List.map_append, List.nodup_append]
    refine ⟨(g.nd.sublist (List.Sublist.map _ List.filter_sublist)), by simp, fun x hx y hy e => ?_⟩
    simp only [List.map_cons, List.map_nil, List.mem_singleton] at hy
    subst hy e
    exact hnot hx
  · intro n hn
    show n ∈ (plW m.pl name ++ _).map _
    have hn : n ∈ (without m.dl name ++ [(name, vi cnt)]).map (·.1) := hn
    rw [List.map_append, List.mem_append] at hn ⊢
    rcases hn with hn | hn
    · obtain ⟨h1, h2⟩ := without_keys.mp hn
      obtain ⟨p, hp, rfl⟩ := List.mem_map.mp (g.sub n h1)
      exact .inl (List.mem_map_of_mem (f := (·.1)) (List.mem_filter.mpr ⟨hp, by simpa using h2⟩))
    · exact .inr (by simpa using hn)
  · intro p hp
    have hp : p ∈ plW m.pl name ++ [(name, a, (List.range cnt).map fun k => h (keyN name k))] := hp
    rcases List.mem_append.mp hp with hp | hp
    · exact g.ne p (List.mem_filter.mp hp).1
    · rw [List.mem_singleton] at hp
      subst hp
      intro e
      have := congrArg List.length e
      simp at this
      omega
  · exact (Strs.dropPs g.st).layR _
  · intro n hn
    have hn : n ∈ (plW m.pl name ++ [(name, a, (List.range cnt).map fun k => h (keyN name k))]).map (·.1) := hn
    show ∃ c : Int, valueAt (without m.dl name ++ [(name, vi cnt)]) n = some (vi c)
    by_cases e : n = name
    · subst e
      refine ⟨cnt, ?_⟩
      have := distK_at (dl := without m.dl n) (name := n) (k := cnt) (fun h => (without_keys.mp h).2 rfl)
      unfold distK at this
      rw [if_neg (by omega), if_neg (by omega)] at this
      exact this
    · rw [List.map_append, List.mem_append] at hn
      rcases hn with hn | hn
      · obtain ⟨p, hp, rfl⟩ := List.mem_map.mp hn
        obtain ⟨c, hc'⟩ := g.has p.1 (List.mem_map_of_mem (f := (·.1)) (List.mem_filter.mp hp).1)
        refine ⟨c, ?_⟩
        rw [valueAt_app_ne e, valueAt_without e]
        exact hc'
      · simp at hn
        exact absurd hn e
  · intro p hp
    have hp : p ∈ plW m.pl name ++ [(name, a, (List.range cnt).map fun k => h (keyN name k))] := hp
    rcases List.mem_append.mp hp with hp | hp
    · exact g.sh p (List.mem_filter.mp hp).1
    · rw [List.mem_singleton] at hp
      subst hp
      simp only [List.length_map, List.length_range]
      exact hc.2
theorem Lays.good {h : Str → Int} {m : MS} (g : Good m) {es : List El} {m' : MS} (h1 : Lays h m es m') (hc : ∀ e ∈ es, 1 ≤ e.cnt ∧ e.cnt ≤ 1000000) : Good m' := by
  induction h1 with
  | nil => exact g
  | @snoc es e a m' h1 ih => exact (ih fun e he => hc e (List.mem_append_left _ he)).layF (hc e (List.mem_append_right _ (.head _)))
theorem Lays.rl_len {h : Str → Int} {m : MS} {es : List El} {m' : MS} (h1 : Lays h m es m') : m'.rl.length ≤ m.rl.length + (es.map El.cnt).sum := by
  induction h1 with
  | nil => exact Nat.le_add_right _ _
  | @snoc es e a m₁ h1 i1 =>
    have i2 : (layF h e.name e.cnt a m₁).rl.length ≤ _ := layR_len h e.name ((olds m₁.pl e.name).foldl (dropP e.name) m₁.rl) e.cnt
    have i3 := dropPs_len e.name (olds m₁.pl e.name) m₁.rl
    rw [List.map_append, List.sum_append]
    exact Nat.le_trans i2 (Nat.le_trans (Nat.add_le_add_right (Nat.le_trans i3 i1) _) (Nat.le_of_eq (Nat.add_assoc _ _ _)))
theorem Lays.dl_len {h : Str → Int} {m : MS} {es : List El} {m' : MS} (h1 : Lays h m es m') : m'.dl.length ≤ m.dl.length + es.length := by
  induction h1 with
  | nil => exact Nat.le_add_right _ _
  | @snoc es e a m₁ h1 i1 =>
    have i2 := without_len m₁.dl e.name
    show (without m₁.dl e.name ++ _).length ≤ _
    rw [List.length_append, List.length_append]
    exact Nat.le_trans (Nat.add_le_add_right (Nat.le_trans i2 i1) _) (Nat.le_of_eq (Nat.add_assoc _ _ _))
theorem Lays.pl_len {h : Str → Int} {m : MS} {es : List El} {m' : MS} (h1 : Lays h m es m') : m'.pl.length ≤ m.pl.length + es.length := by
  induction h1 with
  | nil => exact Nat.le_add_right _ _
  | @snoc es e a m₁ h1 i1 =>
    have i2 : (plW m₁.pl e.name).length ≤ m₁.pl.length := List.length_filter_le _ _
    show (plW m₁.pl e.name ++ _).length ≤ _
    rw [List.length_append, List.length_append]
    exact Nat.le_trans (Nat.add_le_add_right (Nat.le_trans i2 i1) _) (Nat.le_of_eq (Nat.add_assoc _ _ _))
theorem plK_len (pl : Pl) : (plK pl).length = pl.length := List.length_map _
theorem sum_take (l : List Nat) (i : Nat) : (l.take i).sum ≤ l.sum := by
  have := congrArg List.sum (List.take_append_drop i l)
  rw [List.sum_append] at this
  omega
theorem distK_len (dl : List (Str × Value)) (name : Str) (k : Nat) : (distK dl name k).length ≤ dl.length + 1 := by unfold distK; split <;> simp
theorem turn_perm {x : Item} {A N Q R : List Item} : (x :: (A ++ (N ++ (Q ++ R)))).Perm (A ++ (N ++ ((Q ++ [x]) ++ R))) := by
  have := (List.perm_middle (a := x) (l₁ := A ++ (N ++ Q)) (l₂ := R)).symm
  simpa [List.append_assoc] using this
theorem ptsIts_snoc {pl : Pl} {name : Str} {a : Addr} {ps : List Int} : ptsIts (pl ++ [(name, a, ps)]) = ptsIts pl ++ [(a, ListI (ps.map vi))] := by unfold ptsIts; rw [List.map_append]; rfl
theorem plK_snoc {pl : Pl} {name : Str} {a : Addr} {ps : List Int} (h : name ∉ pl.map (·.1)) : stored (plK pl) name (.ref a) = plK (pl ++ [(name, a, ps)]) := by
  have hc : ((plK pl).map (·.1)).contains name = false := by
    rw [plK_keys]
    cases q : (pl.map (·.1)).contains name with
    | false => rfl
    | true => exact absurd (List.contains_iff_mem.mp q) h
  rw [stored_new hc]; unfold plK; rw [List.map_append]; rfl
theorem plW_not {pl : Pl} {name : Str} : name ∉ (plW pl name).map (·.1) := by
  unfold plW
  intro h
  obtain ⟨p, hp, e⟩ := List.mem_map.mp h
  exact (of_decide_eq_true (List.mem_filter.mp hp).2) e
theorem plK_at {pl1 pl2 : Pl} {name : Str} {l : Addr} {ps : List Int} (nd : ((pl1 ++ (name, l, ps) :: pl2).map (·.1)).Nodup) : valueAt (plK (pl1 ++ (name, l, ps) :: pl2)) name = some (.ref l) := by
  rw [List.map_append, List.map_cons, List.nodup_append] at nd
  obtain ⟨n1, n2, n4⟩ := nd
  have hn : name ∉ pl1.map (·.1) := fun h => n4 _ h _ (.head _) rfl
  unfold valueAt plK
  rw [List.map_append, List.find?_append, List.find?_eq_none.mpr fun p hp e => ?_]
  · simp
  · obtain ⟨q, hq, rfl⟩ := List.mem_map.mp hp
    exact hn (by rw [← of_decide_eq_true e]; exact List.mem_map_of_mem (f := (·.1)) hq)
theorem pts_perm {pl1 pl2 : Pl} {name : Str} {l : Addr} {ps : List Int} {A N R : List Item} : (A ++ (N ++ (ptsIts (pl1 ++ (name, l, ps) :: pl2) ++ R))).Perm (A ++ ([(l, ListI (ps.map vi))] ++ (N ++ (ptsIts (pl1 ++ pl2) ++ R)))) := by
  refine List.Perm.append_left A ?_
  have : ptsIts (pl1 ++ (name, l, ps) :: pl2) = ptsIts pl1 ++ (l, ListI (ps.map vi)) :: ptsIts pl2 := by unfold ptsIts; rw [List.map_append]; rfl
  have e2 : ptsIts (pl1 ++ pl2) = ptsIts pl1 ++ ptsIts pl2 := by unfold ptsIts; rw [List.map_append]
  rw [this, e2]
  have := List.perm_middle (a := ((l, ListI (ps.map vi)) : Item)) (l₁ := N ++ ptsIts pl1) (l₂ := ptsIts pl2 ++ R)
  simpa [List.append_assoc] using this
theorem le_sum {els : List El} {i : Nat} (hi : i < els.length) : els[i].cnt ≤ (els.map El.cnt).sum := by
  have h1 := congrArg (fun l => (l.map El.cnt).sum) (List.take_append_drop i els)
  simp only [List.map_append, List.sum_append] at h1
  rw [List.drop_eq_getElem_cons hi] at h1
  simp only [List.map_cons, List.sum_cons] at h1
  omega

end Mc

section
set_option hygiene false in
local macro_rules | `(tactic| walk_at "TurnEnd") => `(tactic| k_dflt (refine' TurnEnd.cont ⟨_, _, _, rfl⟩ (S.mono (by walk_at "st") ?_); first | walk_at "sub" | (rotate_left; walk_at "sub") | (rotate_left 2; walk_at "sub") | (rotate_left 3; walk_at "sub")))
set_option hygiene false in
local macro_rules | `(tactic| walk_at "TurnEnd") => `(tactic| k_dflt (refine' TurnEnd.next ⟨_, _, _, rfl⟩ (S.mono (by walk_at "st") ?_); first | walk_at "sub" | (rotate_left; walk_at "sub") | (rotate_left 2; walk_at "sub") | (rotate_left 3; walk_at "sub")))
set_option hygiene false in
local macro_rules | `(tactic| walk_at "TurnEnd") => `(tactic| k_dflt (refine' TurnEnd.cont ⟨_, _, rfl⟩ (S.mono (by walk_at "st") ?_); first | walk_at "sub" | (rotate_left; walk_at "sub") | (rotate_left 2; walk_at "sub") | (rotate_left 3; walk_at "sub")))
set_option hygiene false in
local macro_rules | `(tactic| walk_at "TurnEnd") => `(tactic| k_dflt (refine' TurnEnd.next ⟨_, _, rfl⟩ (S.mono (by walk_at "st") ?_); first | walk_at "sub" | (rotate_left; walk_at "sub") | (rotate_left 2; walk_at "sub") | (rotate_left 3; walk_at "sub")))
set_option hygiene false in
local macro_rules | `(tactic| walk_at "TurnEnd") => `(tactic| k_dflt (refine' TurnEnd.cont ⟨_, rfl⟩ (S.mono (by walk_at "st") ?_); first | walk_at "sub" | (rotate_left; walk_at "sub") | (rotate_left 2; walk_at "sub") | (rotate_left 3; walk_at "sub")))
set_option hygiene false in
local macro_rules | `(tactic| walk_at "TurnEnd") => `(tactic| k_dflt (refine' TurnEnd.next ⟨_, rfl⟩ (S.mono (by walk_at "st") ?_); first | walk_at "sub" | (rotate_left; walk_at "sub") | (rotate_left 2; walk_at "sub") | (rotate_left 3; walk_at "sub")))
namespace Mc
noncomputable abbrev fixA (w : World) (rt rtd dist ka npts nodes rg ha : Addr) (ks : List Value) (m : MS) : List Item :=
  [(rt, InstI 118 rtd), (rtd, DictI (sk PP w) (rtA dist ka npts nodes rg (.ref ha)) none), (dist, DictI (sk PP w) m.dl none), (ka, ListI ks), (npts, DictI (sk PP w) (plK m.pl) none), (rg, DictI (ik PP w) m.rl none)]
structure ItOk (w : World) (C : Cx) (nv : Addr) (els : List El) (nIts nIts' : List Item) : Prop where
  go : ∀ (A : Around) its s (Q E : Value → Shared → Prop), S C (nIts ++ its) s →
    (∀ it s' P, it ∉ C.tb → NxT PP w C it els.length (fun i us => ∃ (h : i < els.length) (t : Tok), us = [.str els[i].name t, .ref els[i].cn]) P (fun its => ∀ p ∈ nIts', p ∈ its) → S C ((it, P 0) :: (nIts' ++ its)) s' → Q (.ref it) s') →
    wpAny (model PP w) A (pyIter (.ref nv)) Q E s
  back : ∀ its s, S C (nIts' ++ its) s → S C (nIts ++ its) s
theorem r_get2_cnt {w : World} {C : Cx} {A : Around} {E : Value → Shared → Prop} {its : List Item} {s : Shared} {Q : Value → Shared → Prop} {a : Addr} {kvs : List (Str × Value)} {ep : Option Nat} {x : Str} {key : Value} {k : Nat} {t0 : Tok} (H : S C its s) (hm : (a, DictI (sk PP w) kvs ep) ∈ its) (hk : (sk PP w).is x key = true) (ha : (a == sysModules) = false)
    (hv : valueAt kvs x = if k = 0 then none else some (vi k)) (h : ∀ t s', S C its s' → Q (.int (k : Int) t) s') : wpAny (model PP w) A (call (.builtin "dict.get") [.ref a, key, .int 0 t0]) Q E s := by
  by_cases h0 : k = 0
  · subst h0
    rw [if_pos rfl] at hv
    exact r_get2_n H hm hk ha hv fun s' H' => h _ s' H'
  · rw [if_neg h0] at hv
    exact r_get2_s H hm hk ha hv fun s' H' t => h t s' H'
inductive CrI (w : World) (L rt nv rtd dist ka npts nodes rg ha : Addr) (ks : List Value) (nIts' rest : List Item) (h : Str → Int) (m : MS) (els : List El) (i : Nat) (its' : List Item) : Prop where
  | mk (v1 v2 v3 v4 v5 v6 : Option Value) (m' : MS) (h1 : Lays h m (els.take i) m') (h2 : its' = (L, NsI [("self", some (.ref rt)), ("nodes", some (.ref nv)), ("node_name", v1), ("node_conf", v2), ("old_points", v3), ("point", v4), ("new_points", v5), ("w", v6)]) :: (fixA w rt rtd dist ka npts nodes rg ha ks m' ++ (nIts' ++ (ptsIts m'.pl ++ rest)))) : CrI w L rt nv rtd dist ka npts nodes rg ha ks nIts' rest h m els i its'
theorem create_ring (w : World) (C : Cx) (hB : Bs PP w (hK w.params) gl C) (rt rtd dist ka npts nodes rg ha nv : Addr) (ks : List Value) (m : MS) (hIts : List Item) (h : Str → Int) (dom : Str → Prop) (hh : HOk w C ha hIts h dom)
   (els : List El) (nIts nIts' : List Item) (hit : ItOk w C nv els nIts nIts') (g : Good m) (hdom : ∀ e ∈ els, ∀ k, k < e.cnt → dom (keyN e.name k)) (s1 : (dist == sysModules) = false) (s2 : (npts == sysModules) = false) (s3 : (rg == sysModules) = false)
   (hnl : ∀ e ∈ els, e.name.length ≤ 100) (z1 : m.dl.length + els.length ≤ 1000) (z2 : m.pl.length + els.length ≤ 1000) (z3 : m.rl.length + (els.map El.cnt).sum < 64)
   (A : Around) (rest : List Item) (s : Shared) (Q E : Value → Shared → Prop) (hA : Rm A 6 60) (hr : ∀ p ∈ hIts, p ∈ rest) (hc : ∀ e ∈ els, ConfOk w rest e)
   (H : S C (fixA w rt rtd dist ka npts nodes rg ha ks m ++ (nIts ++ (ptsIts m.pl ++ rest))) s)
   (hQ : ∀ ka' (ns : List Int) m' s', Lays h m els m' → ns.Perm (m'.rl.map (·.1)) → ns.Pairwise (· ≤ ·) → S C (fixA w rt rtd dist ka' npts nodes rg ha (ns.map vi) m' ++ (nIts ++ (ptsIts m'.pl ++ rest))) s' → Q .none s') :
   wpAny (model PP w) A (call (.ref 108) [.ref rt, .ref nv]) Q E s := by
  refine wpAny_call ?_
  refine call_fnL H hB (hB.k H 108 _ rfl) rfl (codeRec_of (hB.k H) (by kernel_rfl)) rfl hA (BindsTo.of_eq rfl) (by kernel_rfl) (by kernel_rfl) (loc := [("self", some (.ref rt)), ("nodes", some (.ref nv)), ("node_name", none), ("node_conf", none), ("old_points", none), ("point", none), ("new_points", none), ("w", none)]) (by kernel_rfl) rfl ?_
  intro L s A1 E1 hA1 H env
  have hcnt : ∀ e ∈ els, 1 ≤ e.cnt ∧ e.cnt ≤ 1000000 := fun e he => by
    obtain ⟨_, _, _, _, a1, a3, a2, a4⟩ := hc e he
    have : 1 * 1 ≤ e.v * e.wt := Int.mul_le_mul a1 a2 (by decide) (by omega)
    have : e.v * e.wt ≤ 1000 * 1000 := Int.mul_le_mul a3 a4 (by omega) (by decide)
    unfold El.cnt
    omega
  iterate 3 walk1
  have H := H.perm (List.perm_append_comm_assoc ((L, NsI _) :: fixA w rt rtd dist ka npts nodes rg ha ks m) nIts (ptsIts m.pl ++ rest))
  refine hit.go _ _ _ _ _ H fun it s' P ht N H => ?_
  have H := H.perm (List.Perm.cons _ (List.perm_append_comm_assoc nIts' ((L, NsI _) :: fixA w rt rtd dist ka npts nodes rg ha ks m) (ptsIts m.pl ++ rest)))
  refine for_nxT1 N hA1.hd (fun i us ⟨hi, t, e⟩ => by rw [e]; rfl) rfl (fun i its' => CrI w L rt nv rtd dist ka npts nodes rg ha ks nIts' rest h m els i its') ?_ ⟨none, none, none, none, none, none, m, .nil, rfl⟩ H ?_ ?_
  · rintro i l ⟨v1, v2, v3, v4, v5, v6, m', _, rfl⟩ p hp
    exact .tail _ (List.mem_append_right _ (List.mem_append_left _ hp))
  · rintro i us l s E' hi ⟨hi', t, rfl⟩ ⟨v1, v2, v3, v4, v5, v6, m', hl, rfl⟩ H QI hQI
    have g' := hl.good g (fun e he => hcnt e (List.mem_of_mem_take he))
    have hx1 := hl
    have hmem : els[i] ∈ els := List.getElem_mem _
    obtain ⟨kvs, cm, cv, cw, b1, b2, b3, b4⟩ := hc els[i] hmem
    have hdm := hdom els[i] hmem
    have hnl1 := hnl els[i] hmem
    have bl1 := hl.rl_len
    have bl2 := sum_take (els.map El.cnt) i
    rw [List.map_take] at bl1
    have bl3 := hl.dl_len
    have bl4 := hl.pl_len
    rw [List.length_take] at bl3 bl4
    have bl5 := plK_len m'.pl
    have b5 : els[i].v * els[i].wt ≤ 1000 * 1000 := Int.mul_le_mul b2 b4 (by omega) (by decide)
    have b6 : 1 * 1 ≤ els[i].v * els[i].wt := Int.mul_le_mul b1 b3 (by decide) (by omega)
    generalize hname : els[i].name = name at *
    generalize hcnt' : els[i].cnt = cnt at *
    have hstep : els.take (i + 1) = els.take i ++ [els[i]] := by rw [List.take_add_one, List.getElem?_eq_getElem hi]; rfl
    have hnm : name ∉ (without m'.dl name).map (·.1) := fun q => (without_keys.mp q).2 rfl
    have hov : ∃ (ov : Value) (oldIts : List Item), (name ∉ m'.pl.map (·.1) ∧ ov = .none ∧ oldIts = []) ∨ (∃ pl1 pl2 l ps, m'.pl = pl1 ++ (name, l, ps) :: pl2 ∧ ov = .ref l ∧ oldIts = [(l, ListI (ps.map vi))]) := by
      by_cases hn : name ∈ m'.pl.map (·.1)
      · obtain ⟨⟨n', l, ps⟩, h1, h2⟩ := List.mem_map.mp hn
        obtain ⟨pl1, pl2, h3⟩ := List.append_of_mem h1
        cases h2
        exact ⟨_, _, .inr ⟨_, _, _, _, h3, rfl, rfl⟩⟩
      · exact ⟨_, _, .inl ⟨hn, rfl, rfl⟩⟩
    obtain ⟨ov, oldIts, hov⟩ := hov
    iterate 20 walk1
    refine cut1 (fun v s' => er v = ov ∧ S C ((it, P (i + 1)) :: (L, NsI [("self", some (.ref rt)), ("nodes", some (.ref nv)), ("node_name", some (.str name 0)), ("node_conf", some (.ref els[i].cn)), ("old_points", v3), ("point", v4), ("new_points", v5), ("w", v6)]) ::
      ([(rt, InstI 118 rtd), (rtd, DictI (sk PP w) (rtA dist ka npts nodes rg (.ref ha)) none), (dist, DictI (sk PP w) m'.dl none), (ka, ListI ks), (npts, DictI (sk PP w) (plK (plW m'.pl name)) none), (rg, DictI (ik PP w) m'.rl none)] ++ (oldIts ++ (nIts' ++ (ptsIts (plW m'.pl name) ++ rest))))) s') ?_ ?_
    · intro QC hQC
      rcases hov with ⟨hn, rfl, rfl⟩ | ⟨pl1, pl2, l, ps, hpl, rfl, rfl⟩
      · have hv := valueAt_none (l := plK m'.pl) (k := name) (by rw [plK_keys]; exact hn)
        rw [plW_none hn] at hQC
        repeat' walk1
        exact hQC _ _ ⟨rfl, by assumption⟩
      · have hv : valueAt (plK m'.pl) name = some (.ref l) := by rw [hpl]; exact plK_at (by rw [← hpl]; exact g'.nd)
        repeat' walk1
        refine hQC _ _ ⟨rfl, ?_⟩
        rw [plK_without] at H
        have e1 : plW m'.pl name = pl1 ++ pl2 := by rw [hpl]; exact plW_mid (by rw [← hpl]; exact g'.nd)
        rw [e1] at H ⊢
        rw [hpl] at H
        exact H.perm (pts_perm (A := [_, _, _, _, _, _, _, _]))
    · intro v s' ⟨he, H⟩
      iterate 2 walk1
      refine cut1 (fun r s' => r = .next ∧ ∃ pv, S C ((it, P (i + 1)) :: (L, NsI [("self", some (.ref rt)), ("nodes", some (.ref nv)), ("node_name", some (.str name 0)), ("node_conf", some (.ref els[i].cn)), ("old_points", some ov), ("point", pv), ("new_points", v5), ("w", v6)]) ::
        ([(rt, InstI 118 rtd), (rtd, DictI (sk PP w) (rtA dist ka npts nodes rg (.ref ha)) none), (dist, DictI (sk PP w) (without m'.dl name) none), (ka, ListI ks), (npts, DictI (sk PP w) (plK (plW m'.pl name)) none), (rg, DictI (ik PP w) ((olds m'.pl name).foldl (dropP name) m'.rl) none)] ++ (oldIts ++ (nIts' ++ (ptsIts (plW m'.pl name) ++ rest))))) s') ?_ ?_
      · intro QC hQC
        rcases hov with ⟨hn, rfl, rfl⟩ | ⟨pl1, pl2, l, ps, hpl, rfl, rfl⟩
        · rw [without_none fun q => hn (g'.sub _ q), olds_none hn] at hQC
          repeat' walk1
          exact hQC _ _ ⟨rfl, v4, by assumption⟩
        · have e1 : plW m'.pl name = pl1 ++ pl2 := by rw [hpl]; exact plW_mid (by rw [← hpl]; exact g'.nd)
          have e2 : olds m'.pl name = ps := by rw [hpl]; exact olds_mid (by rw [← hpl]; exact g'.nd)
          have e3 : ps ≠ [] := g'.ne (name, l, ps) (by rw [hpl]; simp)
          obtain ⟨cc, hcc⟩ := g'.has name (by rw [hpl]; simp)
          rw [e2] at hQC
          have hst := g'.st
          have b7 : ps.length ≤ 1000000 := g'.sh (name, l, ps) (by rw [hpl]; simp)
          have he0 : (ps.map vi).isEmpty = false := by cases ps with | nil => exact absurd rfl e3 | cons _ _ => rfl
          have hstep : ∀ k (hk : k < ps.length), (ps.take (k + 1)).foldl (dropP name) m'.rl = dropP name ((ps.take k).foldl (dropP name) m'.rl) ps[k] := fun k hk => by
            rw [List.take_add_one, List.getElem?_eq_getElem hk, List.foldl_append]; rfl
          repeat' walk1
          · exact absurd (Eq.symm (by assumption : (ps.map vi).isEmpty = true)) (by rw [he0]; decide)
          rename_i it2 hit2
          obtain ⟨Z, hZ⟩ : ∃ Z : List Item, Z = (it, P (i + 1)) :: (rt, InstI 118 rtd) :: (rtd, DictI (sk PP w) (rtA dist ka npts nodes rg (.ref ha)) none) :: (dist, DictI (sk PP w) m'.dl none) :: (ka, ListI ks) :: (npts, DictI (sk PP w) (plK (plW m'.pl name)) none) :: (l, ListI (ps.map vi)) :: (nIts' ++ (ptsIts (plW m'.pl name) ++ rest)) := ⟨_, rfl⟩
          have hZ1 : (rt, InstI 118 rtd) ∈ Z := by rw [hZ]; walk_at "mb"
          have hZ2 : (rtd, DictI (sk PP w) (rtA dist ka npts nodes rg (.ref ha)) none) ∈ Z := by rw [hZ]; walk_at "mb"
          have hZ3 : (l, ListI (ps.map vi)) ∈ Z := by rw [hZ]; walk_at "mb"
          have H2 : S C ((it2, ListIt l 0) :: (L, NsI [("self", some (.ref rt)), ("nodes", some (.ref nv)), ("node_name", some (.str name 0)), ("node_conf", some (.ref els[i].cn)), ("old_points", some (.ref l)), ("point", v4), ("new_points", v5), ("w", v6)]) :: (rg, DictI (ik PP w) m'.rl none) :: Z) s := by
            rw [hZ]; exact S.pick (ps := [(it2, _), (L, _), (rg, _)]) H (by walk_at "pick") (by walk_at "sub")
          clear H
          refine for_nx1 (nx_list l (ps.map vi) hit2) hA1.hd (fun k its' => ∃ pv, its' = (L, NsI [("self", some (.ref rt)), ("nodes", some (.ref nv)), ("node_name", some (.str name 0)), ("node_conf", some (.ref els[i].cn)), ("old_points", some (.ref l)), ("point", pv), ("new_points", v5), ("w", v6)]) :: (rg, DictI (ik PP w) ((ps.take k).foldl (dropP name) m'.rl) none) :: Z) ?_ ⟨v4, rfl⟩ H2 ?_ ?_
          · rintro i l' ⟨pv, rfl⟩
            walk_at "mb"
          · rintro k v l' s E' hk ⟨X', hx, he⟩ ⟨pv, rfl⟩ H QI hQI
            rw [List.length_map] at hk
            rw [List.getElem?_map, List.getElem?_eq_getElem hk] at hx
            cases hx
            obtain ⟨t, rfl⟩ := int_of_er he
            have hlen := dropPs_len name (ps.take k) m'.rl
            have hs := Strs.dropPs (name := name) (ps := ps.take k) hst
            rw [hstep k hk] at hQI
            generalize (ps.take k).foldl (dropP name) m'.rl = rr at *
            iterate 13 walk1
            refine r_get1 (by walk_at "st") (by walk_at "key") s3 (by walk_at "mb") fun s H => Ret.cases fun u hu => ?_
            iterate 1 walk1
            refine eq_sc hu (hs.opt _) ?_
            have hff : ¬ false = true := Bool.false_ne_true
            by_cases hg : valueAt rr ps[k] = some (vs name)
            · rw [decide_eq_true hg]
              rw [show dropP name rr ps[k] = without rr ps[k] from if_pos hg] at hQI
              repeat' walk1
              exact hQI _ _ (TurnEnd.next ⟨_, rfl⟩ (S.tkTo H rfl rfl rfl))
            · rw [decide_eq_false hg]
              rw [show dropP name rr ps[k] = rr from if_neg hg] at hQI
              repeat' walk1
              exact hQI _ _ (TurnEnd.next ⟨_, rfl⟩ (S.tkTo H rfl rfl rfl))
          · rintro l' s E' ⟨pv, rfl⟩ H
            rw [List.take_of_length_le (by simp), hZ] at H
            repeat' walk1
            exact hQC _ _ ⟨rfl, pv, S.pick (ps := [(it, _), (L, _), (rt, _), (rtd, _), (dist, _), (ka, _), (npts, _), (rg, _)]) H (by walk_at "pick") (by walk_at "sub")⟩
      · rintro r s' ⟨rfl, pv, H⟩
        have H := S.mono H (List.Sublist.cons_cons _ (List.Sublist.cons_cons _ (List.Sublist.append_left (List.sublist_append_right oldIts _) _)))
        have hn' : name ∉ (plW m'.pl name).map (·.1) := plW_not
        have hst := Strs.dropPs (name := name) (ps := olds m'.pl name) g'.st
        have bd := without_len m'.dl name
        have bl := dropPs_len name (olds m'.pl name) m'.rl
        have bp : (plK (plW m'.pl name)).length ≤ m'.pl.length := by rw [plK_len]; exact List.length_filter_le _ _
        have hcs : cnt ≤ (els.map El.cnt).sum := by
          have := bl2
          rw [← hcnt']
          exact le_sum hi
        generalize hD0 : without m'.dl name = D0 at *
        generalize hP0 : plW m'.pl name = P0 at *
        generalize hR0 : (olds m'.pl name).foldl (dropP name) m'.rl = R0 at *
        clear hov he
        repeat' walk1
        rename_i nlst _ _ _ rr it2 hit2
        have ecnt : (els[i].v * els[i].wt - 0).toNat = cnt := hcnt'
        rw [ecnt] at H
        have hls := Strs.layR (h := h) (name := name) hst
        have hll := layR_len h name R0
        obtain ⟨Z, hZ⟩ : ∃ Z : List Item, Z = (it, P (i + 1)) :: (rt, InstI 118 rtd) :: (rtd, DictI (sk PP w) (rtA dist ka npts nodes rg (.ref ha)) none) :: (ka, ListI ks) :: (npts, DictI (sk PP w) (plK P0) none) :: (nIts' ++ (ptsIts P0 ++ rest)) := ⟨_, rfl⟩
        have hZ1 : (rt, InstI 118 rtd) ∈ Z := by rw [hZ]; walk_at "mb"
        have hZ2 : (rtd, DictI (sk PP w) (rtA dist ka npts nodes rg (.ref ha)) none) ∈ Z := by rw [hZ]; walk_at "mb"
        have hZr : ∀ p ∈ hIts, p ∈ Z := fun p hp => by rw [hZ]; exact .tail _ (.tail _ (.tail _ (.tail _ (.tail _ (List.mem_append_right _ (List.mem_append_right _ (hr p hp)))))))
        have H2 : S C ((it2, RangeIt 0 cnt 0) :: (nlst, ListI []) :: (L, NsI [("self", some (.ref rt)), ("nodes", some (.ref nv)), ("node_name", some (.str name 0)), ("node_conf", some (.ref els[i].cn)), ("old_points", some ov), ("point", pv), ("new_points", some (.ref nlst)), ("w", v6)]) :: (dist, DictI (sk PP w) D0 none) :: (rg, DictI (ik PP w) R0 none) :: Z) s := by
          rw [hZ]; exact S.pick (ps := [(it2, _), (nlst, _), (L, _), (dist, _), (rg, _)]) H (by walk_at "pick") (by walk_at "sub")
        clear H
        refine for_nx1 (nx_range 0 cnt hit2) hA1.hd (fun k its' => ∃ u1 u2, its' = (nlst, ListI ((List.range k).map fun k => vi (h (keyN name k)))) :: (L, NsI [("self", some (.ref rt)), ("nodes", some (.ref nv)), ("node_name", some (.str name 0)), ("node_conf", some (.ref els[i].cn)), ("old_points", some ov), ("point", u1), ("new_points", some (.ref nlst)), ("w", u2)]) :: (dist, DictI (sk PP w) (distK D0 name k) none) :: (rg, DictI (ik PP w) (layR h name k R0) none) :: Z) ?_ ⟨pv, v6, rfl⟩ H2 ?_ ?_
        · exact fun _ _ _ => trivial
        · rintro k v l' s E' hk ⟨tk, rfl⟩ ⟨u1, u2, rfl⟩ H QI hQI
          rw [Int.zero_add]
          have hdk := distK_at (dl := D0) (name := name) (k := k) hnm
          rw [layR_step, ← distK_step hnm, List.range_succ, List.map_append] at hQI
          have hdl := distK_len D0 name k
          have hd1 := len_dash
          have hd2 := len_empty
          have hd3 := len_digits (k := k) (by omega)
          have hll := hll k
          iterate 15 walk1
          refine r_get2_cnt (by walk_at "st") (by walk_at "mb") (by walk_at "key") s1 hdk fun tk2 s H => ?_
          repeat' walk1
          refine hashi_ok w C hB rt rtd dist ka npts nodes rg ha hIts h dom hh _ _ _ _ _ (keyN name k) _ (hdm k hk) (hA1.le (by decide) (by decide)) (by walk_at "st") ?_ (by walk_at "mb") (by walk_at "mb") ?_
          · exact fun p hp => by repeat (first | exact hZr p hp | refine List.Mem.tail _ ?_)
          intro _ s H
          repeat' walk1
          exact hQI _ _ (TurnEnd.next ⟨_, _, rfl⟩ (S.tkTo H rfl rfl rfl))
        · rintro l' s E' ⟨u1, u2, rfl⟩ H
          rw [hZ] at H
          have H : S C ([(nlst, ListI ((List.range cnt).map fun k => vi (h (keyN name k)))), (it, P (i + 1)), (L, NsI [("self", some (.ref rt)), ("nodes", some (.ref nv)), ("node_name", some (.str name 0)), ("node_conf", some (.ref els[i].cn)), ("old_points", some ov), ("point", u1), ("new_points", some (.ref nlst)), ("w", u2)]), (rt, InstI 118 rtd), (rtd, DictI (sk PP w) (rtA dist ka npts nodes rg (.ref ha)) none), (dist, DictI (sk PP w) (distK D0 name cnt) none), (ka, ListI ks), (npts, DictI (sk PP w) (plK P0) none), (rg, DictI (ik PP w) (layR h name cnt R0) none)] ++ (nIts' ++ (ptsIts P0 ++ rest))) s :=
            S.pick (ps := [(nlst, _), (it, _), (L, _), (rt, _), (rtd, _), (dist, _), (ka, _), (npts, _), (rg, _)]) H (by walk_at "pick") (by walk_at "sub")
          repeat' walk1
          have HF := H
          rw [plK_snoc (ps := (List.range cnt).map fun k => h (keyN name k)) hn'] at HF
          have HF := HF.perm (turn_perm (x := (nlst, _)) (A := [_, _, _, _, _, _, _, _]) (N := nIts') (Q := ptsIts P0) (R := rest))
          refine hQI _ _ (TurnEnd.next (l := (L, NsI [("self", some (.ref rt)), ("nodes", some (.ref nv)), ("node_name", some (.str name 0)), ("node_conf", some (.ref els[i].cn)), ("old_points", some ov), ("point", u1), ("new_points", some (.ref nlst)), ("w", u2)]) :: (fixA w rt rtd dist ka npts nodes rg ha ks (layF h name cnt nlst m') ++ (nIts' ++ (ptsIts (layF h name cnt nlst m').pl ++ rest)))) ⟨some (.str name 0), some (.ref els[i].cn), some ov, u1, some (.ref nlst), u2, _, ?_, rfl⟩ ?_)
          · rw [hstep]
            have := hl.snoc (e := els[i]) (a := nlst)
            rw [hname, hcnt'] at this
            exact this
          · have hcc := (hcnt els[i] hmem).1
            have e4 : distK D0 name cnt = D0 ++ [(name, vi cnt)] := by unfold distK; rw [if_neg (by omega)]
            show S C (_ :: _ :: (fixA w rt rtd dist ka npts nodes rg ha ks ⟨without m'.dl name ++ [(name, vi cnt)], plW m'.pl name ++ [(name, nlst, (List.range cnt).map fun k => h (keyN name k))], layR h name cnt ((olds m'.pl name).foldl (dropP name) m'.rl)⟩ ++ (nIts' ++ (ptsIts (plW m'.pl name ++ [(name, nlst, (List.range cnt).map fun k => h (keyN name k))]) ++ rest)))) _
            have e5 : ptsIts (P0 ++ [(name, nlst, (List.range cnt).map fun k => h (keyN name k))]) = ptsIts P0 ++ [(nlst, ListI ((List.range cnt).map fun k => vi (h (keyN name k))))] := by rw [ptsIts_snoc, List.map_map]; rfl
            rw [hD0, hP0, hR0, ← e4, e5]
            exact HF
  · rintro l s E' ⟨v1, v2, v3, v4, v5, v6, m', hl, rfl⟩ H
    rw [List.take_of_length_le (by simp)] at hl
    have bl1 := hl.rl_len
    repeat' walk1
    rename_i B ns hp hs
    have H2 : S C (fixA w rt rtd dist B npts nodes rg ha (ns.map vi) m' ++ (nIts' ++ (ptsIts m'.pl ++ rest))) s := S.pick H (by walk_at "pick") (by walk_at "sub")
    have H3 := hit.back _ _ (H2.perm (List.perm_append_comm_assoc _ _ _))
    exact hQ B ns m' _ hl hp hs (H3.perm (List.perm_append_comm_assoc _ _ _))

end Mc
end

namespace Mc
noncomputable abbrev newRt (w : World) (rt rtd dist ka npts nodes rg : Addr) (hh : Value) : List Item := [(rt, InstI 118 rtd), (rtd, DictI (sk PP w) (rtA dist ka npts nodes rg hh) none), (dist, DictI (sk PP w) [] none), (ka, ListI []), (npts, DictI (sk PP w) [] none), (nodes, DictI (sk PP w) [] none), (rg, DictI (ik PP w) [] none)]
noncomputable abbrev newRtS (w : World) (rt rtd dist ka npts nodes rg : Addr) (hh : Value) : List Item := [(rt, InstI 118 rtd), (rtd, DictI (sk PP w) (rtA dist ka npts nodes rg hh) none), (dist, DictI (sk PP w) [] none), (ka, ListI []), (npts, DictI (sk PP w) [] none), (nodes, DictI (sk PP w) [] none), (rg, DictI (sk PP w) [] none)]
theorem rt_conv {w : World} {C : Cx} {its : List Item} {s : Shared} {rt rtd dist ka npts nodes rg : Addr} {hh : Value} (H : S C (newRtS w rt rtd dist ka npts nodes rg hh ++ its) s) : S C (newRt w rt rtd dist ka npts nodes rg hh ++ its) s :=
  S.conv H (a := rg) (.tail (.tail (.tail (.tail (.tail (.tail .head)))))) fun o h => DictI.empty h
theorem mr_init (w : World) (C : Cx) (hB : Bs PP w (hK w.params) gl C) (A : Around) (its : List Item) (s : Shared) (Q E : Value → Shared → Prop) (ha : Addr) (fdH : FuncData) (mv : Value) (hA : Rm A 3 20) (H : S C its s) (hi : (ha, FnI fdH) ∈ its)
   (hQ : ∀ rt rtd dist ka npts nodes rg s', S C (newRt w rt rtd dist ka npts nodes rg (.ref ha) ++ its) s' → Q (.ref rt) s') : wpAny (model PP w) A (call (.ref 118) [.ref ha, mv]) Q E s := by
  refine wpAny_call ?_
  refine r_make (D := 118) (fI := 94) H hB (by kernel_rfl) (by kernel_rfl) (by kernel_rfl) fun rt rtd s H => ?_
  have hA' := hA.under_make 118 [.ref ha, mv] []
  refine call_cellL (fun L => [(L + 1, CellI (some (er mv)))]) H hB (hB.k H 94 _ rfl) rfl (codeRec_of (hB.k H) (by kernel_rfl)) rfl hA' (binds_K (hB.k H) rfl (T := 87) rfl rfl rfl rfl) rfl (fun _ => by kernel_rfl) (loc := [("self", some (.ref rt)), ("hash_fn", some (.ref ha))]) (by kernel_rfl) (fun _ => rfl) (fun _ => rfl) (fun _ => by kernel_rfl) ?_
  intro L s A1 E1 hA1 H env
  simp only [List.cons_append, List.nil_append] at H
  repeat' walk1
  refine ⟨rfl, hQ rt rtd ?_ ?_ ?_ ?_ ?_ _ (rt_conv ?h)⟩
  case h => exact S.pick (by walk_at "st") (by walk_at "pick") (by walk_at "sub")

end Mc

namespace Mc
structure Cf where
  host : Value
  inst : Value
  nn : Str
  port : Value
  v : Int
  wt : Int
noncomputable abbrev Cf.kvs (c : Cf) : List (Str × Value) := [("hostname", c.host), ("instance", c.inst), ("nodename", vs c.nn), ("port", c.port), ("vnodes", vi c.v), ("weight", vi c.wt)]
noncomputable abbrev cf0 (vn : Int) (name : Str) : Cf := ⟨vs name, .none, name, .none, vn, 1⟩
noncomputable abbrev Nl := List (Str × Addr × Cf)
noncomputable def nlK (nl : Nl) : List (Str × Value) := nl.map fun p => (p.1, .ref p.2.1)
noncomputable def nlIts (w : World) (nl : Nl) : List Item := nl.map fun p => (p.2.1, DictI (sk PP w) p.2.2.kvs none)
noncomputable def nlSet (nl : Nl) (name : Str) (a : Addr) (c : Cf) : Nl := if (nl.map (·.1)).contains name then nl.map (fun p => if p.1 = name then (p.1, a, c) else p) else nl ++ [(name, a, c)]
noncomputable def nlAt (nl : Nl) (name : Str) : Option Cf := (nl.find? fun p => decide (p.1 = name)).map (·.2.2)
noncomputable def curK (cur : Option Cf) : List (Str × Value) := match cur with | none => [] | some c => c.kvs
/-- what a node's row is: an item of a list, a weight, a row -/
inductive Nc
  | int (i : Int)
  | row (a : Addr) (kvs : List (Str × Value))
structure Nd where
  name : Str
  nc : Nc
noncomputable def Nc.val : Nc → Value
  | .int i => vi i
  | .row a _ => .ref a
noncomputable def ndK (nds : List Nd) : List (Str × Value) := nds.map fun e => (e.name, e.nc.val)
/-- a field of a row, taken over -/
noncomputable def Cf.put (c : Cf) (p : Str × Value) : Cf :=
  if p.1 = "hostname" then { c with host := p.2 } else if p.1 = "instance" then { c with inst := p.2 } else if p.1 = "port" then { c with port := p.2 }
  else if p.1 = "nodename" then (match p.2 with | .str x _ => { c with nn := x } | _ => c)
  else if p.1 = "vnodes" then (match p.2 with | .int i _ => { c with v := i } | _ => c)
  else if p.1 = "weight" then (match p.2 with | .int i _ => { c with wt := i } | _ => c) else c
noncomputable def chg (cur : Option Cf) (p : Str × Value) : Bool :=
  if p.1 = "nodename" then (match cur, p.2 with | some c, .str x _ => decide (c.nn ≠ x) | _, _ => true)
  else if p.1 = "vnodes" then (match cur, p.2 with | some c, .int i _ => decide (c.v ≠ i) | _, _ => true)
  else if p.1 = "weight" then (match cur, p.2 with | some c, .int i _ => decide (c.wt ≠ i) | _, _ => true) else false
noncomputable def confOf (vn : Int) (name : Str) : Nc → Cf
  | .int i => { cf0 vn name with wt := i }
  | .row _ kvs => kvs.foldl Cf.put (cf0 vn name)
noncomputable def chgRow (cur : Option Cf) : Nc → Bool
  | .int _ => false
  | .row _ kvs => kvs.any (chg cur)
noncomputable def chgW (cur : Option Cf) (x : Int) : Bool := match cur with | none => true | some c => decide (c.wt ≠ x)
/-- the weight is what the def tells -/
noncomputable abbrev wcf (f : Cf → Int) (c : Cf) : Cf := { c with wt := f c }
noncomputable def chgOf (f : Cf → Int) (vn : Int) (name : Str) (cur : Option Cf) (nc : Nc) : Bool := (cur.isNone || chgRow cur nc) || chgW cur (f (confOf vn name nc))
inductive Confs (f : Cf → Int) (vn : Int) (nl : Nl) : List Nd → Nl → Bool → Prop
  | nil : Confs f vn nl [] nl false
  | snoc {nds nd nl' b a} : Confs f vn nl nds nl' b → Confs f vn nl (nds ++ [nd]) (nlSet nl' nd.name a (wcf f (confOf vn nd.name nd.nc))) (b || chgOf f vn nd.name (nlAt nl' nd.name) nd.nc)
noncomputable def RowOk (kvs : List (Str × Value)) : Prop := ∀ p ∈ kvs, (p.1 = "nodename" → ∃ x, p.2 = vs x) ∧ (p.1 = "vnodes" → ∃ i, p.2 = vi i) ∧ (p.1 = "weight" → ∃ i, p.2 = vi i)
noncomputable def six : List Str := ["hostname", "instance", "nodename", "port", "vnodes", "weight"]
noncomputable def Nc.ok (w : World) (rest : List Item) : Nc → Prop
  | .int _ => False
  | .row a kvs => (a, DictI (sk PP w) kvs none) ∈ rest ∧ RowOk kvs ∧ kvs.length ≤ 100 ∧ ∀ p ∈ kvs, p.1 ∈ six
theorem cf_host (c : Cf) : valueAt c.kvs "hostname" = some c.host := by kernel_rfl
theorem cf_nn (c : Cf) : valueAt c.kvs "nodename" = some (vs c.nn) := by kernel_rfl
theorem cf_port (c : Cf) : valueAt c.kvs "port" = some c.port := by kernel_rfl
theorem cf_v (c : Cf) : valueAt c.kvs "vnodes" = some (vi c.v) := by kernel_rfl
theorem cf_wt (c : Cf) : valueAt c.kvs "weight" = some (vi c.wt) := by kernel_rfl
theorem put_host (c : Cf) (X : Value) : stored c.kvs "hostname" X = (c.put ("hostname", X)).kvs := by kernel_rfl
theorem put_inst (c : Cf) (X : Value) : stored c.kvs "instance" X = (c.put ("instance", X)).kvs := by kernel_rfl
theorem put_port (c : Cf) (X : Value) : stored c.kvs "port" X = (c.put ("port", X)).kvs := by kernel_rfl
theorem put_nn (c : Cf) (x : Str) : stored c.kvs "nodename" (vs x) = (c.put ("nodename", vs x)).kvs := by kernel_rfl
theorem put_v (c : Cf) (i : Int) : stored c.kvs "vnodes" (vi i) = (c.put ("vnodes", vi i)).kvs := by kernel_rfl
theorem put_wt (c : Cf) (i : Int) : stored c.kvs "weight" (vi i) = (c.put ("weight", vi i)).kvs := by kernel_rfl
theorem nlK_keys {nl : Nl} : (nlK nl).map (·.1) = nl.map (·.1) := by unfold nlK; rw [List.map_map]; rfl
theorem nlK_set {nl : Nl} {name : Str} {a : Addr} {c : Cf} : nlK (nlSet nl name a c) = stored (nlK nl) name (.ref a) := by
  unfold nlSet stored
  rw [any_keys, nlK_keys]
  split
  · unfold nlK
    rw [List.map_map, List.map_map]
    refine List.map_congr_left fun p _ => ?_
    simp only [Function.comp]
    split <;> rfl
  · unfold nlK; rw [List.map_append]; rfl
theorem nlSet_nodup {nl : Nl} {name : Str} {a : Addr} {c : Cf} (nd : (nl.map (·.1)).Nodup) : ((nlSet nl name a c).map (·.1)).Nodup := by
  have := nodup_stored (us := nlK nl) (k := name) (v := .ref a) (by rw [nlK_keys]; exact nd)
  rw [← nlK_set, nlK_keys] at this
  exact this
theorem nlSet_len (nl : Nl) (name : Str) (a : Addr) (c : Cf) : (nlSet nl name a c).length ≤ nl.length + 1 := by unfold nlSet; split <;> simp
theorem nl_split {nl : Nl} {name : Str} (h : name ∈ nl.map (·.1)) (nd : (nl.map (·.1)).Nodup) : ∃ l1 l2 a c, nl = l1 ++ (name, a, c) :: l2 ∧ name ∉ l1.map (·.1) ∧ name ∉ l2.map (·.1) := by
  obtain ⟨⟨n', a, c⟩, h1, h2⟩ := List.mem_map.mp h
  obtain ⟨l1, l2, h3⟩ := List.append_of_mem h1
  cases h2
  subst h3
  rw [List.map_append, List.map_cons, List.nodup_append, List.nodup_cons] at nd
  exact ⟨l1, l2, a, c, rfl, fun q => nd.2.2 _ q _ (.head _) rfl, nd.2.1.1⟩
theorem nlAt_none {nl : Nl} {name : Str} (h : name ∉ nl.map (·.1)) : nlAt nl name = none := by
  unfold nlAt
  rw [List.find?_eq_none.mpr fun p hp e => h (by rw [← of_decide_eq_true e]; exact List.mem_map_of_mem (f := (·.1)) hp)]
  rfl
theorem nlAt_mid {l1 l2 : Nl} {name : Str} {a : Addr} {c : Cf} (h : name ∉ l1.map (·.1)) : nlAt (l1 ++ (name, a, c) :: l2) name = some c := by
  unfold nlAt
  rw [List.find?_append, List.find?_eq_none.mpr fun p hp e => h (by rw [← of_decide_eq_true e]; exact List.mem_map_of_mem (f := (·.1)) hp)]
  simp
theorem nlK_mid {l1 l2 : Nl} {name : Str} {a : Addr} {c : Cf} (h : name ∉ l1.map (·.1)) : valueAt (nlK (l1 ++ (name, a, c) :: l2)) name = some (.ref a) := by
  unfold valueAt nlK
  rw [List.map_append, List.find?_append, List.find?_eq_none.mpr fun p hp e => ?_]
  · simp
  · obtain ⟨q, hq, rfl⟩ := List.mem_map.mp hp
    exact h (by rw [← of_decide_eq_true e]; exact List.mem_map_of_mem (f := (·.1)) hq)
theorem nlSet_mid {l1 l2 : Nl} {name : Str} {a a' : Addr} {c c' : Cf} (h1 : name ∉ l1.map (·.1)) (h2 : name ∉ l2.map (·.1)) : nlSet (l1 ++ (name, a, c) :: l2) name a' c' = l1 ++ (name, a', c') :: l2 := by
  unfold nlSet
  rw [if_pos (List.contains_iff_mem.mpr (by simp))]
  have e : ∀ l : Nl, name ∉ l.map (·.1) → l.map (fun p => if p.1 = name then (p.1, a', c') else p) = l := fun l hl => by
    conv => rhs; rw [← List.map_id l]
    refine List.map_congr_left fun p hp => ?_
    rw [if_neg fun q => hl (by rw [← q]; exact List.mem_map_of_mem (f := (·.1)) hp)]; rfl
  rw [List.map_append, List.map_cons, e l1 h1, e l2 h2, if_pos rfl]
theorem nlSet_new {nl : Nl} {name : Str} {a : Addr} {c : Cf} (h : name ∉ nl.map (·.1)) : nlSet nl name a c = nl ++ [(name, a, c)] := by
  unfold nlSet
  rw [if_neg fun q => h (List.contains_iff_mem.mp q)]
theorem nlIts_app {w : World} (l1 l2 : Nl) : nlIts w (l1 ++ l2) = nlIts w l1 ++ nlIts w l2 := by unfold nlIts; rw [List.map_append]
theorem Confs.nodup {f : Cf → Int} {vn : Int} {nl : Nl} (nd : (nl.map (·.1)).Nodup) {nds nl' b} (h : Confs f vn nl nds nl' b) : (nl'.map (·.1)).Nodup := by
  induction h with
  | nil => exact nd
  | snoc _ ih => exact nlSet_nodup ih
theorem Confs.len {f : Cf → Int} {vn : Int} {nl : Nl} {nds nl' b} (h : Confs f vn nl nds nl' b) : nl'.length ≤ nl.length + nds.length := by
  induction h with
  | nil => exact Nat.le_refl _
  | @snoc nds nd nl' b a h h1 =>
    rw [List.length_append, List.length_singleton]
    exact Nat.le_trans (nlSet_len nl' nd.name a (wcf f (confOf vn nd.name nd.nc))) (Nat.succ_le_succ h1)
/-- a row goes, the old one stays as garbage -/
theorem S.nlG {w : World} {C : Cx} {s : Shared} {nl : Nl} {name : Str} {a : Addr} {c : Cf} {A R : List Item} (nd : (nl.map (·.1)).Nodup) (H : S C (A ++ ((a, DictI (sk PP w) c.kvs none) :: (nlIts w nl ++ R))) s) :
    ∃ G : List Item, (∀ p ∈ nlIts w nl, p ∈ nlIts w (nlSet nl name a c) ∨ p ∈ G) ∧ S C (A ++ (nlIts w (nlSet nl name a c) ++ (G ++ R))) s := by
  by_cases h : name ∈ nl.map (·.1)
  · obtain ⟨l1, l2, a0, c0, rfl, h1, h2⟩ := nl_split h nd
    rw [nlSet_mid h1 h2]
    refine ⟨[(a0, DictI (sk PP w) c0.kvs none)], fun p hp => ?_, ?_⟩
    · rw [nlIts_app] at hp ⊢
      rcases List.mem_append.mp hp with hp | hp
      · exact .inl (List.mem_append_left _ hp)
      · rcases List.mem_cons.mp hp with rfl | hp
        · exact .inr (.head _)
        · exact .inl (List.mem_append_right _ (.tail _ hp))
    · rw [nlIts_app] at H ⊢
      refine H.perm (List.Perm.append_left A ?_)
      rw [List.append_assoc, List.append_assoc]
      refine List.perm_middle.symm.trans (List.Perm.append_left _ ?_)
      refine List.Perm.cons _ ?_
      exact List.perm_middle.symm
  · rw [nlSet_new h]
    refine ⟨[], fun p hp => .inl ?_, ?_⟩
    · rw [nlIts_app]; exact List.mem_append_left _ hp
    · rw [nlIts_app]
      refine H.perm (List.Perm.append_left A ?_)
      rw [List.append_assoc]
      exact List.perm_middle.symm

end Mc

namespace Mc
noncomputable abbrev hrA (rt : Addr) (vn : Int) (wf : Value) : List (Str × Value) := [("runtime", .ref rt), ("_default_vnodes", vi vn), ("_weight_fn", wf)]
/-- the items that _configure_nodes looks at -/
noncomputable abbrev fixC (w : World) (hr hrd rt rtd dist ka npts nodes rg ha wa : Addr) (vn : Int) (nl : Nl) (tl : List Item) : List Item :=
  (hr, InstI 390 hrd) :: (hrd, DictI (sk PP w) (hrA rt vn (.ref wa)) none) :: (rt, InstI 118 rtd) :: (rtd, DictI (sk PP w) (rtA dist ka npts nodes rg (.ref ha)) none) :: (nodes, DictI (sk PP w) (nlK nl) none) :: tl
noncomputable abbrev frC (hr nd : Addr) (b no cf cu nn nc k v : Option Value) : List (Str × Option Value) := [("self", some (.ref hr)), ("nodes", some (.ref nd)), ("conf_changed", b), ("node", no), ("conf", cf), ("current_conf", cu), ("nodename", nn), ("node_conf", nc), ("k", k), ("v", v)]
theorem ndK_at {nds : List Nd} (hnd : (nds.map (·.name)).Nodup) {i : Nat} (hi : i < nds.length) : valueAt (ndK nds) nds[i].name = some nds[i].nc.val := by
  refine valueAt_mem (us := ndK nds) ?_ ?_
  · unfold ndK; rw [List.map_map]; exact hnd
  · unfold ndK; exact List.mem_map.mpr ⟨nds[i], List.getElem_mem hi, rfl⟩
theorem bne_ne {α : Type} [DecidableEq α] [BEq α] [LawfulBEq α] (a b : α) : (a != b) = decide (a ≠ b) := by
  by_cases h : a = b
  · subst h; simp
  · rw [decide_eq_true h]; simpa using h
noncomputable def three : List Str := ["nodename", "vnodes", "weight"]
theorem cf_keys (c : Cf) : c.kvs.map (·.1) = six := rfl
theorem cf_some (c : Cf) {k : Str} (h : k ∈ six) : ∃ W, valueAt c.kvs k = some W := by
  have : (valueAt c.kvs k).isSome = true := valueAt_isSome.mpr (by rw [cf_keys]; exact h)
  exact Option.isSome_iff_exists.mp this
theorem chg_not3 (cur : Option Cf) {k : Str} {X : Value} (h : k ∉ three) : chg cur (k, X) = false := by
  unfold three at h
  simp only [List.mem_cons, List.not_mem_nil, or_false, not_or] at h
  unfold chg; rw [if_neg h.1, if_neg h.2.1, if_neg h.2.2]
theorem put_in (c : Cf) {k : Str} {X : Value} (h : k ∈ six) (hr : (k = "nodename" → ∃ x, X = vs x) ∧ (k = "vnodes" → ∃ i, X = vi i) ∧ (k = "weight" → ∃ i, X = vi i)) : stored c.kvs k X = (c.put (k, X)).kvs := by
  unfold six at h
  rcases List.mem_cons.mp h with rfl | h
  · exact put_host c X
  rcases List.mem_cons.mp h with rfl | h
  · exact put_inst c X
  rcases List.mem_cons.mp h with rfl | h
  · obtain ⟨x, rfl⟩ := hr.1 rfl; exact put_nn c x
  rcases List.mem_cons.mp h with rfl | h
  · exact put_port c X
  rcases List.mem_cons.mp h with rfl | h
  · obtain ⟨x, rfl⟩ := hr.2.1 rfl; exact put_v c x
  rw [List.mem_singleton] at h; subst h
  obtain ⟨x, rfl⟩ := hr.2.2 rfl; exact put_wt c x
theorem ne_wt {w : World} {A : Around} {E : Value → Shared → Prop} {s : Shared} {Q : Value → Shared → Prop} {u : Value} {cur : Option Cf} {i : Int} {t : Tok} (hu : er u = er ((valueAt (curK cur) "weight").getD .none)) (h : Q (.bool (chgW cur i)) s) :
    wpAny (model PP w) A (compareOp .NotEq u (.int i t)) Q E s := by
  cases cur with
  | none => obtain rfl := none_of_er hu; walk1; exact h
  | some c =>
    rw [show valueAt (curK (some c)) "weight" = some (vi c.wt) from cf_wt c] at hu
    obtain ⟨t3, rfl⟩ := int_of_er hu
    walk1
    rw [bne_ne]
    exact h
/-- what the def was told, and its list of it -/
noncomputable def toldIts (seen : Addr) (g : List (Addr × Cf)) : List Item := (seen, ListI (g.map fun p => .ref p.1)) :: g.map fun p => (p.1, TupI [vs p.2.nn, p.2.host, p.2.inst, p.2.port, vi p.2.v, vi p.2.wt])
/-- the def that tells weights -/
structure WOk (w : World) (C : Cx) (wa : Addr) (wS : List Item) (seen : Addr) (f : Cf → Int) (dom : Cf → Prop) : Prop where
  fi : ∃ fd, (wa, FnI fd) ∈ wS
  fn : ∀ its s, S C its s → (∀ p ∈ wS, p ∈ its) → FnAt wa s.heap
  run : ∀ (A : Around) its s (Q E : Value → Shared → Prop) g c us, dom c → us.map ek = c.kvs → g.length ≤ 10000 → Rm A 2 30 → (∀ p ∈ wS, p ∈ its) → S C (toldIts seen g ++ its) s →
    (∀ t' a s', S C (toldIts seen (g ++ [(a, c)]) ++ its) s' → Q (.int (f c) t') s') → wpAny (model PP w) A (call (.ref wa) [] us) Q E s
set_option hygiene false in
local macro_rules | `(tactic| walk_at "mb") => `(tactic| with_reducible assumption)
theorem mem9 {x1 x2 x3 x4 x5 x6 x7 x8 x9 p : Item} {U : List Item} (h : p ∈ U) : p ∈ x1 :: x2 :: x3 :: x4 :: x5 :: x6 :: x7 :: x8 :: x9 :: U := by repeat (first | exact h | apply List.Mem.tail)
theorem perm_told {X I T R : List Item} : (X ++ (I ++ (T ++ R))).Perm (T ++ (X ++ (I ++ R))) :=
  (List.Perm.append_left X (List.perm_append_comm_assoc _ _ _)).trans (List.perm_append_comm_assoc _ _ _)
theorem perm_gar {Gx T G R : List Item} : (Gx ++ (T ++ (G ++ R))).Perm (T ++ ((Gx ++ G) ++ R)) := by
  rw [List.append_assoc]
  exact List.perm_append_comm_assoc _ _ _
theorem sub_gar {x1 x2 x3 x4 x5 x6 : Item} {N T G R : List Item} : (x1 :: x2 :: x3 :: x4 :: x5 :: x6 :: (N ++ (T ++ R))).Sublist (x1 :: x2 :: x3 :: x4 :: x5 :: x6 :: (N ++ (T ++ (G ++ R)))) := by
  iterate 6 refine List.Sublist.cons_cons _ ?_
  exact List.Sublist.append_left (List.Sublist.append_left (List.sublist_append_right _ _) _) _
theorem S.memZ {C : Cx} {its : List Item} {s : Shared} {X Y : Item} {Z : List Item} (H : S C its s) (h : ∀ its : List Item, X ∈ its → (∀ p ∈ Z, p ∈ its) → Y ∈ its) (h1 : X ∈ its) (h2 : ∀ p ∈ Z, p ∈ its) : Y ∈ its := h _ h1 h2
inductive CdI (w : World) (hr hrd rt rtd dist ka npts nodes rg ha wa : Addr) (vn : Int) (nl : Nl) (nds : List Nd) (nd L : Addr) (n : Nat) (seen : Addr) (g : List (Addr × Cf)) (rest : List Item) (tw : Cf → Int) (i : Nat) (its' : List Item) : Prop where
  | mk (b : Bool) (no cf cu nn nc k v : Option Value) (nl' : Nl) (g' : List (Addr × Cf)) (G : List Item) (h1 : Confs tw vn nl (nds.take i) nl' b) (h2 : g'.map (·.2) = g.map (·.2) ++ (nds.take i).map (fun e => confOf vn e.name e.nc)) (h3 : ∀ p ∈ nlIts w nl ++ rest, p ∈ nlIts w nl' ++ (G ++ rest)) (h4 : its' = (nd, DictI (sk PP w) (ndK nds) (some n)) :: (L, NsI (frC hr nd (some (.bool b)) no cf cu nn nc k v)) :: fixC w hr hrd rt rtd dist ka npts nodes rg ha wa vn nl' (nlIts w nl' ++ (toldIts seen g' ++ (G ++ rest)))) : CdI w hr hrd rt rtd dist ka npts nodes rg ha wa vn nl nds nd L n seen g rest tw i its'
theorem conf_dict (w : World) (C : Cx) (hB : Bs PP w (hK w.params) gl C) (wS : List Item) (seen : Addr) (tw : Cf → Int) (dom : Cf → Prop) (hr hrd rt rtd dist ka npts nodes rg ha wa : Addr) (hw : WOk w C wa wS seen tw dom) (vn : Int) (nl : Nl) (nds : List Nd) (nd : Addr) (g : List (Addr × Cf))
   (hnd : (nds.map (·.name)).Nodup) (gnl : (nl.map (·.1)).Nodup) (z : nl.length + nds.length ≤ 900) (zg : g.length + nds.length ≤ 10000)
   (A : Around) (rest : List Item) (s : Shared) (Q E : Value → Shared → Prop) (hA : Rm A 4 40) (hr0 : ∀ p ∈ wS, p ∈ rest) (hc : ∀ e ∈ nds, e.nc.ok w (nlIts w nl ++ rest)) (hdm : ∀ e ∈ nds, dom (confOf vn e.name e.nc))
   (H : S C ((nd, DictI (sk PP w) (ndK nds) none) :: fixC w hr hrd rt rtd dist ka npts nodes rg ha wa vn nl (nlIts w nl ++ (toldIts seen g ++ rest))) s)
   (hQ : ∀ nl' b g' s', Confs tw vn nl nds nl' b → g'.map (·.2) = g.map (·.2) ++ nds.map (fun e => confOf vn e.name e.nc) → S C ((nd, DictI (sk PP w) (ndK nds) none) :: fixC w hr hrd rt rtd dist ka npts nodes rg ha wa vn nl' (nlIts w nl' ++ (toldIts seen g' ++ rest))) s' → Q (.bool b) s') :
   wpAny (model PP w) A (call (.ref 157) [.ref hr, .ref nd]) Q E s := by
  obtain ⟨fdW, hwi⟩ := hw.fi
  have hwi := hr0 _ hwi
  refine wpAny_call ?_
  refine call_fnL H hB (hB.k H 157 _ rfl) rfl (codeRec_of (hB.k H) (by kernel_rfl)) rfl hA (BindsTo.of_eq rfl) (by kernel_rfl) (by kernel_rfl) (loc := frC hr nd none none none none none none none none) (by kernel_rfl) rfl ?_
  intro L s A1 E1 hA1 H env
  iterate 44 walk1
  have H : S C ((nd, DictI (sk PP w) (ndK nds) none) :: (L, NsI (frC hr nd (some (.bool false)) none none none none none none none)) :: fixC w hr hrd rt rtd dist ka npts nodes rg ha wa vn nl (nlIts w nl ++ (toldIts seen g ++ rest))) _ := S.pick (ps := [(nd, _)]) H (by walk_at "pick") (by walk_at "sub")
  obtain ⟨n, H⟩ := H.named
  refine it_keys H (.head _) fun it s' hit H => ?_
  refine for_nx1 (nx_keys (knd := sk PP w) n hit) hA1.hd (fun i its' => CdI w hr hrd rt rtd dist ka npts nodes rg ha wa vn nl nds nd L n seen g rest tw i its') ?_ ⟨false, none, none, none, none, none, none, none, nl, g, [], .nil, by simp, fun p hp => hp, rfl⟩ H ?_ ?_
  · rintro i l ⟨b, no, cf, cu, nn, nc, k, v, nl', g', G, _, _, _, rfl⟩
    exact .head _
  · rintro i v l s E' hi ⟨k, X, hx, hk⟩ ⟨b, no, cf, cu, nn, nc, kk, vv, nl', g', G, hcf, hgt, hG, rfl⟩ H QI hQI
    have hi' : i < nds.length := by simpa [ndK] using hi
    have hx' : k = nds[i].name ∧ X = nds[i].nc.val := by
      unfold ndK at hx
      rw [List.getElem?_map, List.getElem?_eq_getElem hi'] at hx
      cases hx
      exact ⟨rfl, rfl⟩
    obtain ⟨rfl, rfl⟩ := hx'
    obtain ⟨t, rfl⟩ := Value.isStrOf_shape hk
    have hok := hc nds[i] (List.getElem_mem hi')
    have hgl : g'.length ≤ 10000 := by
      have := congrArg List.length hgt
      rw [List.length_append, List.length_map, List.length_map, List.length_map, List.length_take] at this
      omega
    have hdmi := hdm nds[i] (List.getElem_mem hi')
    obtain ⟨R0, hR0⟩ : ∃ R0, R0 = toldIts seen g' ++ (G ++ rest) := ⟨_, rfl⟩
    have hwR : (wa, FnI fdW) ∈ R0 := by rw [hR0]; exact List.mem_append_right _ (List.mem_append_right _ hwi)
    have hGR : ∀ p ∈ nlIts w nl ++ rest, p ∈ nlIts w nl' ++ R0 := fun p hp => by
      rw [hR0]
      exact (List.mem_append.mp (hG p hp)).elim (fun q => List.mem_append_left _ q) fun q => List.mem_append_right _ (List.mem_append_right _ q)
    have hrR : ∀ p ∈ wS, p ∈ G ++ rest := fun p hp => List.mem_append_right _ (hr0 p hp)
    rw [← hR0] at H
    have hgs : (nds.take (i + 1)).map (fun e => confOf vn e.name e.nc) = (nds.take i).map (fun e => confOf vn e.name e.nc) ++ [confOf vn nds[i].name nds[i].nc] := by rw [List.take_add_one, List.getElem?_eq_getElem hi', List.map_append]; rfl
    have hval := ndK_at hnd hi'
    have gnl' := hcf.nodup gnl
    have hlen := hcf.len
    rw [List.length_take] at hlen
    have hlK : (nlK nl').length = nl'.length := List.length_map _
    have hstep : nds.take (i + 1) = nds.take i ++ [nds[i]] := by rw [List.take_add_one, List.getElem?_eq_getElem hi']; rfl
    have hsn := fun a => hcf.snoc (nd := nds[i]) (a := a)
    rw [← hstep] at hsn
    generalize hname : nds[i].name = name at *
    generalize hncv : nds[i].nc = ncv at *
    repeat' walk1
    rename_i cf _ _ _ _ _ e0
    refine cut1 (fun v s' => ∃ cc ccI, v = .ref cc ∧ (cc, DictI (sk PP w) (curK (nlAt nl' name)) none) ∈ ccI ∧ ccI = (e0, DictI (sk PP w) [] none) :: nlIts w nl' ∧
      S C ((it, KeyIt nd (ndK nds).length n (i + 1)) :: (nd, DictI (sk PP w) (ndK nds) (some n)) :: (L, NsI (frC hr nd (some (.bool b)) (some (.str name 0)) (some (.ref cf)) cu nn nc kk vv)) :: (cf, DictI (sk PP w) (cf0 vn name).kvs none) :: fixC w hr hrd rt rtd dist ka npts nodes rg ha wa vn nl' (ccI ++ R0)) s') ?_ ?_
    · intro QC hQC
      have H : S C ((it, KeyIt nd (ndK nds).length n (i + 1)) :: (nd, DictI (sk PP w) (ndK nds) (some n)) :: (L, NsI (frC hr nd (some (.bool b)) (some (.str name 0)) (some (.ref cf)) cu nn nc kk vv)) :: (cf, DictI (sk PP w) (cf0 vn name).kvs none) :: fixC w hr hrd rt rtd dist ka npts nodes rg ha wa vn nl' (((e0, DictI (sk PP w) [] none) :: nlIts w nl') ++ R0)) s :=
        S.pick (ps := [(it, _), (nd, _), (L, _), (cf, _), (hr, _), (hrd, _), (rt, _), (rtd, _), (nodes, _), (e0, _)]) H (by walk_at "pick") (by walk_at "sub")
      by_cases hn : name ∈ nl'.map (·.1)
      · obtain ⟨l1, l2, a0, c0, e1, h1, h2⟩ := nl_split hn gnl'
        have hv : valueAt (nlK nl') name = some (.ref a0) := by rw [e1]; exact nlK_mid h1
        have hat : nlAt nl' name = some c0 := by rw [e1]; exact nlAt_mid h1
        walk1
        exact hQC _ _ ⟨a0, _, rfl, by rw [hat, e1, nlIts_app]; exact .tail _ (List.mem_append_right _ (.head _)), rfl, by assumption⟩
      · have hv : valueAt (nlK nl') name = none := valueAt_none (by rw [nlK_keys]; exact hn)
        have hat := nlAt_none hn
        walk1
        exact hQC _ _ ⟨e0, _, rfl, by rw [hat]; exact .head _, rfl, by assumption⟩
    · rintro v s' ⟨cc, ccI, rfl, hcc, hI, H⟩
      generalize hcur : nlAt nl' name = cur at *
      have hcl : (curK cur).length ≤ 6 := by cases cur <;> simp [curK]
      have hce : (curK cur).isEmpty = cur.isNone := by cases cur <;> rfl
      iterate 6 walk1
      refine cut1 (fun f s' => f = .next ∧ S C ((it, KeyIt nd (ndK nds).length n (i + 1)) :: (nd, DictI (sk PP w) (ndK nds) (some n)) :: (L, NsI (frC hr nd (some (.bool (b || cur.isNone))) (some (.str name 0)) (some (.ref cf)) (some (.ref cc)) (some (.str name 0)) nc kk vv)) :: (cf, DictI (sk PP w) (cf0 vn name).kvs none) :: fixC w hr hrd rt rtd dist ka npts nodes rg ha wa vn nl' (ccI ++ R0)) s') ?_ ?_
      · intro QC hQC
        rw [← hce] at hQC
        cases hq : (curK cur).isEmpty
        · rw [hq, Bool.or_false] at hQC
          have hx : ¬ (!!(curK cur).isEmpty) = true := by rw [hq]; decide
          repeat' walk1
          all_goals exact hQC _ _ ⟨rfl, by assumption⟩
        · rw [hq, Bool.or_true] at hQC
          have hx : (!!(curK cur).isEmpty) = true := by rw [hq]; rfl
          repeat' walk1
          all_goals exact hQC _ _ ⟨rfl, by assumption⟩
      · rintro f s' ⟨rfl, H⟩
        generalize hb1 : (b || cur.isNone) = b1 at *
        walk1
        refine cut1 (fun f s' => f = .next ∧ (∃ nc kk vv, S C ((it, KeyIt nd (ndK nds).length n (i + 1)) :: (nd, DictI (sk PP w) (ndK nds) (some n)) :: (L, NsI (frC hr nd (some (.bool (b1 || chgRow cur ncv))) (some (.str name 0)) (some (.ref cf)) (some (.ref cc)) (some (.str name 0)) nc kk vv)) :: (cf, DictI (sk PP w) (confOf vn name ncv).kvs none) :: fixC w hr hrd rt rtd dist ka npts nodes rg ha wa vn nl' (ccI ++ R0)) s')) ?_ ?_
        · intro QC hQC
          cases ncv with
          | int x =>
            exact False.elim hok
          | row ra kvs =>
            have hval : valueAt (ndK nds) name = some (.ref ra) := hval
            obtain ⟨hm, hro, hkl, hsix⟩ := hok
            have hm : (ra, DictI (sk PP w) kvs none) ∈ ccI ++ R0 := by
              rw [hI]
              exact List.Mem.tail _ (hGR _ hm)
            have hcr : cc = ra → kvs = curK cur := fun e => by
              subst e
              obtain ⟨o1, ho1, hd1⟩ := H.get (a := cc) (P := DictI (sk PP w) (curK cur) none) (by walk_at "mb")
              obtain ⟨o2, ho2, hd2⟩ := H.get (a := cc) (P := DictI (sk PP w) kvs none) (by walk_at "mb")
              rw [ho1] at ho2
              cases ho2
              exact hd2.inj hd1
            obtain ⟨q1, q2, hl⟩ := List.append_of_mem hm
            have hp : (ccI ++ R0).Perm ((ra, DictI (sk PP w) kvs none) :: (q1 ++ q2)) := by rw [hl]; exact List.perm_middle
            have H := H.perm (perm_in (A := [_, _, _, _, _, _, _, _, _]) (B := []) hp)
            simp only [List.cons_append, List.nil_append] at H
            repeat' walk1
            rename_i vw
            obtain ⟨Z, hZ⟩ : ∃ Z : List Item, Z = (it, KeyIt nd (ndK nds).length n (i + 1)) :: (nd, DictI (sk PP w) (ndK nds) (some n)) :: fixC w hr hrd rt rtd dist ka npts nodes rg ha wa vn nl' (q1 ++ q2) := ⟨_, rfl⟩
            have H7 : S C ((ra, DictI (sk PP w) kvs none) :: (vw, ViewI "dict_items" ra) :: (L, NsI (frC hr nd (some (.bool b1)) (some (.str name 0)) (some (.ref cf)) (some (.ref cc)) (some (.str name 0)) (some (.ref ra)) kk vv)) :: (cf, DictI (sk PP w) (cf0 vn name).kvs none) :: Z) s := by
              rw [hZ]; exact S.pick (ps := [(ra, _), (vw, _), (L, _), (cf, _)]) H (by walk_at "pick") (by walk_at "sub")
            clear H
            obtain ⟨n2, H7⟩ := H7.named
            obtain ⟨epc, hccZ⟩ : ∃ ep, ∀ its : List Item, (ra, DictI (sk PP w) kvs (some n2)) ∈ its → (∀ p ∈ Z, p ∈ its) → (cc, DictI (sk PP w) (curK cur) ep) ∈ its := by
              by_cases e : cc = ra
              · subst e; rw [← hcr rfl]; exact ⟨some n2, fun _ h _ => h⟩
              · refine ⟨none, fun its _ h => h _ ?_⟩
                rcases List.mem_cons.mp (hp.mem_iff.mp (List.mem_append_left _ hcc)) with q | q
                · exact absurd (congrArg Prod.fst q) e
                · rw [hZ]; walk_at "mb"
            refine it_items H7 (by walk_at "mb") (by walk_at "mb") fun it2 s7 hit2 H8 => ?_
            refine for_nxT1 (nxT_items (knd := sk PP w) (kvs := kvs) n2 hit2) hA1.hd (fun j us ⟨_, _, _, _, _, e, _⟩ => by rw [e]; rfl) rfl (fun j its' => ∃ kk vv, its' = (ra, DictI (sk PP w) kvs (some n2)) :: (L, NsI (frC hr nd (some (.bool (b1 || (kvs.take j).any (chg cur)))) (some (.str name 0)) (some (.ref cf)) (some (.ref cc)) (some (.str name 0)) (some (.ref ra)) kk vv)) :: (cf, DictI (sk PP w) ((kvs.take j).foldl Cf.put (cf0 vn name)).kvs none) :: Z) ?_ ⟨kk, vv, rfl⟩ (S.mono H8 (by rw [List.take_zero, List.any_nil, Bool.or_false]; walk_at "sub")) ?_ ?_
            · rintro j l ⟨kk, vv, rfl⟩
              exact .head _
            · rintro j us l s E'' hj ⟨k, X, key, v, hx, rfl, hk, hv⟩ ⟨kk, vv, rfl⟩ H QI hQI
              obtain ⟨tk, rfl⟩ := Value.isStrOf_shape hk
              rw [List.getElem?_eq_getElem hj] at hx
              have hx := Option.some.inj hx
              have hmem : (k, X) ∈ kvs := by rw [← hx]; exact List.getElem_mem hj
              have hs1 : (kvs.take (j + 1)).foldl Cf.put (cf0 vn name) = ((kvs.take j).foldl Cf.put (cf0 vn name)).put (k, X) := by
                rw [List.take_add_one, List.getElem?_eq_getElem hj, hx, List.foldl_append]; rfl
              have hs2 : (b1 || (kvs.take (j + 1)).any (chg cur)) = ((b1 || (kvs.take j).any (chg cur)) || chg cur (k, X)) := by
                rw [List.take_add_one, List.getElem?_eq_getElem hj, hx, List.any_append, Bool.or_assoc]; simp
              rw [hs1, hs2] at hQI
              have hrk := hro _ hmem
              clear hs1 hs2
              generalize (kvs.take j).foldl Cf.put (cf0 vn name) = c at *
              generalize (b1 || (kvs.take j).any (chg cur)) = B at *
              have hX : er X = X := by rw [← hv]; exact er_er v
              by_cases k6 : k ∈ six
              · obtain ⟨W, hk1⟩ := cf_some c k6
                have hput := put_in c k6 hrk
                iterate 34 walk1
                by_cases k3 : k ∈ three
                · refine r_in_strs (b := true) (ys := three) (by walk_at "st") (by walk_at "mb") (by walk_at "stl") (List.any_eq_true.mpr ⟨k, k3, by simp⟩) ?_
                  iterate 7 walk1
                  have hccH := S.memZ H hccZ (by walk_at "mb") (fun p hp => by repeat (first | exact hp | apply List.Mem.tail))
                  iterate 5 walk1
                  refine r_get1 (by walk_at "st") (by walk_at "key") (H.sysm (hccZ _ (by walk_at "mb") fun p hp => by repeat (first | exact hp | apply List.Mem.tail))) (hccZ _ (by walk_at "mb") fun p hp => by repeat (first | exact hp | apply List.Mem.tail)) fun s H => Ret.cases fun u hu => ?_
                  iterate 1 walk1
                  rename_i v2 hv2
                  have H : S C ((it2, ItemIt ra kvs.length n2 (j + 1)) :: (ra, DictI (sk PP w) kvs (some n2)) :: (L, NsI (frC hr nd (some (.bool B)) (some (.str name 0)) (some (.ref cf)) (some (.ref cc)) (some (.str name 0)) (some (.ref ra)) (some (.str k 0)) (some X))) :: (cf, DictI (sk PP w) (stored c.kvs k X) none) :: Z) s := by
                    have H := H
                    rw [hX] at H
                    exact S.pick (ps := [(it2, _)]) H (by walk_at "pick") (by walk_at "sub")
                  rw [hput] at H
                  refine cut1 (fun r s' => r = .bool (chg cur (k, X)) ∧ S C ((it2, ItemIt ra kvs.length n2 (j + 1)) :: (ra, DictI (sk PP w) kvs (some n2)) :: (L, NsI (frC hr nd (some (.bool B)) (some (.str name 0)) (some (.ref cf)) (some (.ref cc)) (some (.str name 0)) (some (.ref ra)) (some (.str k 0)) (some X))) :: (cf, DictI (sk PP w) (c.put (k, X)).kvs none) :: Z) s') ?_ ?_
                  · intro QC hQC
                    rw [hX] at hv2
                    clear hput hv hk1
                    rcases List.mem_cons.mp k3 with rfl | k3
                    · obtain ⟨x, rfl⟩ := hrk.1 rfl
                      obtain ⟨t2, rfl⟩ := str_of_er hv2
                      cases cur with
                      | none => obtain rfl := none_of_er hu; walk1; exact hQC _ _ ⟨rfl, S.tkTo H rfl rfl rfl⟩
                      | some cu =>
                        rw [show valueAt (curK (some cu)) "nodename" = some (vs cu.nn) from cf_nn cu] at hu
                        obtain ⟨t3, rfl⟩ := str_of_er hu
                        walk1
                        exact hQC _ _ ⟨congrArg Value.bool (bne_ne cu.nn x), S.tkTo H rfl rfl rfl⟩
                    rcases List.mem_cons.mp k3 with rfl | k3
                    · obtain ⟨x, rfl⟩ := hrk.2.1 rfl
                      obtain ⟨t2, rfl⟩ := int_of_er hv2
                      cases cur with
                      | none => obtain rfl := none_of_er hu; walk1; exact hQC _ _ ⟨rfl, S.tkTo H rfl rfl rfl⟩
                      | some cu =>
                        rw [show valueAt (curK (some cu)) "vnodes" = some (vi cu.v) from cf_v cu] at hu
                        obtain ⟨t3, rfl⟩ := int_of_er hu
                        walk1
                        exact hQC _ _ ⟨congrArg Value.bool (bne_ne cu.v x), S.tkTo H rfl rfl rfl⟩
                    rw [List.mem_singleton] at k3
                    subst k3
                    obtain ⟨x, rfl⟩ := hrk.2.2 rfl
                    obtain ⟨t2, rfl⟩ := int_of_er hv2
                    cases cur with
                    | none => obtain rfl := none_of_er hu; walk1; exact hQC _ _ ⟨rfl, S.tkTo H rfl rfl rfl⟩
                    | some cu =>
                      rw [show valueAt (curK (some cu)) "weight" = some (vi cu.wt) from cf_wt cu] at hu
                      obtain ⟨t3, rfl⟩ := int_of_er hu
                      walk1
                      exact hQC _ _ ⟨congrArg Value.bool (bne_ne cu.wt x), S.tkTo H rfl rfl rfl⟩
                  rintro r s ⟨rfl, H⟩
                  clear hput
                  cases hc : chg cur (k, X)
                  · rw [hc, Bool.or_false] at hQI
                    have hc1 : ¬ false = true := Bool.false_ne_true
                    repeat' walk1
                    exact hQI _ _ (TurnEnd.next ⟨some (.str k 0), some X, rfl⟩ (S.tkTo H rfl rfl rfl))
                  · rw [hc, Bool.or_true] at hQI
                    repeat' walk1
                    exact hQI _ _ (TurnEnd.next ⟨some (.str k 0), some X, rfl⟩ (S.tkTo H rfl rfl rfl))
                · refine r_in_strs (b := false) (ys := three) (by walk_at "st") (by walk_at "mb") (by walk_at "stl") (by
                    cases hq : three.any (· == k) with
                    | false => rfl
                    | true => obtain ⟨y, h1, h2⟩ := List.any_eq_true.mp hq; exact absurd ((beq_iff_eq.mp h2) ▸ h1) k3) ?_
                  rw [chg_not3 cur k3, Bool.or_false] at hQI
                  repeat' walk1
                  rw [hX, hput] at H
                  exact hQI _ _ (TurnEnd.next ⟨some (.str k 0), some X, rfl⟩ (S.pick (ps := [(it2, _)]) H (by walk_at "pick") (by walk_at "sub")))
              · exact absurd (hsix _ hmem) k6
            · rintro l s E'' ⟨kk, vv, rfl⟩ H
              rw [List.take_of_length_le (Nat.le_refl _)] at H
              repeat' walk1
              refine hQC _ _ ⟨rfl, some (.ref ra), kk, vv, ?_⟩
              have H := H.unnamed
              rw [hZ] at H
              have H9 : S C ((ra, DictI (sk PP w) kvs none) :: ([(it, KeyIt nd (ndK nds).length n (i + 1)), (nd, DictI (sk PP w) (ndK nds) (some n)), (L, NsI (frC hr nd (some (.bool (b1 || kvs.any (chg cur)))) (some (.str name 0)) (some (.ref cf)) (some (.ref cc)) (some (.str name 0)) (some (.ref ra)) kk vv)), (cf, DictI (sk PP w) (kvs.foldl Cf.put (cf0 vn name)).kvs none), (hr, InstI 390 hrd), (hrd, DictI (sk PP w) (hrA rt vn (.ref wa)) none), (rt, InstI 118 rtd), (rtd, DictI (sk PP w) (rtA dist ka npts nodes rg (.ref ha)) none), (nodes, DictI (sk PP w) (nlK nl') none)] ++ (q1 ++ q2))) s := S.pick (ps := [(ra, _), (it, _), (nd, _)]) H (by walk_at "pick") (by walk_at "sub")
              exact H9.perm (perm_out (A := [_, _, _, _, _, _, _, _, _]) (B := []) hp)
        · rintro f s' ⟨rfl, nc, kk, vv, H⟩
          generalize hb2 : (b1 || chgRow cur ncv) = b2 at *
          iterate 1 walk1
          refine cut1 (fun f s' => f = .next ∧ ∃ ta, S C ((it, KeyIt nd (ndK nds).length n (i + 1)) :: (nd, DictI (sk PP w) (ndK nds) (some n)) :: (L, NsI (frC hr nd (some (.bool b2)) (some (.str name 0)) (some (.ref cf)) (some (.ref cc)) (some (.str name 0)) nc kk vv)) :: (cf, DictI (sk PP w) (wcf tw (confOf vn name ncv)).kvs none) :: fixC w hr hrd rt rtd dist ka npts nodes rg ha wa vn nl' (ccI ++ (toldIts seen (g' ++ [(ta, confOf vn name ncv)]) ++ (G ++ rest)))) s') ?_ ?_
          · intro QC hQC
            have hff : ¬ false = true := Bool.false_ne_true
            iterate 9 walk1
            refine methodCall_SS ?_
            iterate 2 walk1
            have hmX : ∀ {x1 x2 x3 x4 x5 x6 x7 x8 x9 : Item} {U : List Item}, ∀ p ∈ wS, p ∈ x1 :: x2 :: x3 :: x4 :: x5 :: x6 :: x7 :: x8 :: x9 :: (ccI ++ (U ++ (G ++ rest))) := fun p hp => mem9 (List.mem_append_right _ (List.mem_append_right _ (hrR p hp)))
            have hmY : ∀ {x1 x2 x3 x4 x5 x6 x7 x8 x9 : Item}, ∀ p ∈ wS, p ∈ [x1, x2, x3, x4, x5, x6, x7, x8, x9] ++ (ccI ++ (G ++ rest)) := fun p hp => List.mem_append_right _ (List.mem_append_right _ (hrR p hp))
            refine callWith_ss H (by walk_at "mb") (by simp) (fun d s' H => ?_) (fun s' H => ?_) fun us s' hus H => ?_
            · walk1
              exact ⟨rfl, H⟩
            · rw [hR0] at H
              exact hw.fn _ _ H hmX
            · rw [hR0] at H
              have H := H.perm (perm_told (X := [_, _, _, _, _, _, _, _, _]))
              refine hw.run A1 _ _ _ _ g' (confOf vn name ncv) us hdmi hus hgl (hA1.le (by decide) (by decide)) hmY H fun t' ta s H => ?_
              have H := H.perm (perm_told (X := [_, _, _, _, _, _, _, _, _])).symm
              obtain ⟨R1, hR1⟩ : ∃ R1, R1 = toldIts seen (g' ++ [(ta, confOf vn name ncv)]) ++ (G ++ rest) := ⟨_, rfl⟩
              rw [← hR1] at H
              simp only [List.cons_append, List.nil_append] at H
              repeat' walk1
              refine hQC _ _ ⟨rfl, ta, ?_⟩
              rw [← hR1]
              exact H
          · rintro f s' ⟨rfl, ta, H⟩
            have hgt' : (g' ++ [(ta, confOf vn name ncv)]).map (·.2) = g.map (·.2) ++ (nds.take (i + 1)).map (fun e => confOf vn e.name e.nc) := by
              rw [List.map_append, hgt, hgs, List.append_assoc]; rfl
            obtain ⟨R1, hR1⟩ : ∃ R1, R1 = toldIts seen (g' ++ [(ta, confOf vn name ncv)]) ++ (G ++ rest) := ⟨_, rfl⟩
            rw [← hR1] at H
            have hwc : (wcf tw (confOf vn name ncv)).wt = tw (confOf vn name ncv) := rfl
            generalize hc9 : wcf tw (confOf vn name ncv) = c9 at *
            iterate 1 walk1
            refine cut1 (fun f s' => f = .next ∧ S C ((it, KeyIt nd (ndK nds).length n (i + 1)) :: (nd, DictI (sk PP w) (ndK nds) (some n)) :: (L, NsI (frC hr nd (some (.bool (b2 || chgW cur c9.wt))) (some (.str name 0)) (some (.ref cf)) (some (.ref cc)) (some (.str name 0)) nc kk vv)) :: (cf, DictI (sk PP w) c9.kvs none) :: fixC w hr hrd rt rtd dist ka npts nodes rg ha wa vn nl' (ccI ++ R1)) s') ?_ ?_
            · intro QC hQC
              have hw1 := cf_wt c9
              iterate 9 walk1
              refine r_get1 (by walk_at "st") (by walk_at "key") (by walk_at "sysm") (by walk_at "mb") fun s H => Ret.cases fun u hu => ?_
              iterate 4 walk1
              refine ne_wt hu ?_
              have hff : ¬ false = true := Bool.false_ne_true
              cases hcw : chgW cur c9.wt
              · rw [hcw, Bool.or_false] at hQC
                repeat' walk1
                exact hQC _ _ ⟨rfl, S.tkTo H rfl rfl rfl⟩
              · rw [hcw, Bool.or_true] at hQC
                repeat' walk1
                exact hQC _ _ ⟨rfl, S.tkTo H rfl rfl rfl⟩
            · rintro f s' ⟨rfl, H⟩
              have hflag : (b2 || chgW cur c9.wt) = (b || chgOf tw vn name cur ncv) := by
                rw [← hb2, ← hb1, hwc]; unfold chgOf; simp only [Bool.or_assoc]
              rw [hflag] at H
              repeat' walk1
              rw [← nlK_set (c := c9), hI] at H
              have H10 : S C ((it, KeyIt nd (ndK nds).length n (i + 1)) :: (nd, DictI (sk PP w) (ndK nds) (some n)) :: (L, NsI (frC hr nd (some (.bool (b || chgOf tw vn name cur ncv))) (some (.str name 0)) (some (.ref cf)) (some (.ref cc)) (some (.str name 0)) nc kk vv)) :: fixC w hr hrd rt rtd dist ka npts nodes rg ha wa vn (nlSet nl' name cf c9) ((cf, DictI (sk PP w) c9.kvs none) :: (nlIts w nl' ++ R1))) s :=
                S.pick (ps := [(it, _), (nd, _), (L, _), (hr, _), (hrd, _), (rt, _), (rtd, _), (nodes, _), (cf, _)]) H (by walk_at "pick") (by walk_at "sub")
              obtain ⟨Gx, hGx, H11⟩ := S.nlG (name := name) (A := [_, _, _, _, _, _, _, _]) gnl' H10
              rw [hR1] at H11
              have H12 := H11.perm (List.Perm.append_left [_, _, _, _, _, _, _, _] (List.Perm.append_left _ (perm_gar (Gx := Gx) (T := toldIts seen (g' ++ [(ta, confOf vn name ncv)])) (G := G) (R := rest))))
              refine hQI _ _ (TurnEnd.next ⟨_, _, _, _, _, _, _, _, _, _, Gx ++ G, hsn cf, hgt', fun p hp => ?_, rfl⟩ H12)
              rcases List.mem_append.mp (hG p hp) with q | q
              · exact (hGx p q).elim (fun q => List.mem_append_left _ q) fun q => List.mem_append_right _ (List.mem_append_left _ (List.mem_append_left _ q))
              · rcases List.mem_append.mp q with q | q
                · exact List.mem_append_right _ (List.mem_append_left _ (List.mem_append_right _ q))
                · exact List.mem_append_right _ (List.mem_append_right _ q)
  · rintro l s E' ⟨b, no, cf, cu, nn, nc, k, v, nl', g', G, hcf, hgt, hG, rfl⟩ H
    rw [List.take_of_length_le (by simp [ndK])] at hcf hgt
    repeat' walk1
    have H10 : S C ((nd, DictI (sk PP w) (ndK nds) (some n)) :: fixC w hr hrd rt rtd dist ka npts nodes rg ha wa vn nl' (nlIts w nl' ++ (toldIts seen g' ++ rest))) s := S.mono (S.pick (ps := [(nd, _)]) H (by walk_at "pick") (by walk_at "sub")) sub_gar
    exact hQ nl' b g' _ hcf hgt H10.unnamed

end Mc

namespace Mc
/-- a ring of no nodes -/
theorem conf_nil (w : World) (C : Cx) (hB : Bs PP w (hK w.params) gl C) (hr hrd rt rtd dist ka npts nodes rg ha wa : Addr) (vn : Int) (nl : Nl) (nd : Addr)
   (A : Around) (rest : List Item) (s : Shared) (Q E : Value → Shared → Prop) (hA : Rm A 4 40)
   (H : S C ((nd, ListI []) :: fixC w hr hrd rt rtd dist ka npts nodes rg ha wa vn nl rest) s)
   (hQ : ∀ s', S C ((nd, ListI []) :: fixC w hr hrd rt rtd dist ka npts nodes rg ha wa vn nl rest) s' → Q (.bool false) s') :
   wpAny (model PP w) A (call (.ref 157) [.ref hr, .ref nd]) Q E s := by
  refine wpAny_call ?_
  refine call_fnL H hB (hB.k H 157 _ rfl) rfl (codeRec_of (hB.k H) (by kernel_rfl)) rfl hA (BindsTo.of_eq rfl) (by kernel_rfl) (by kernel_rfl) (loc := frC hr nd none none none none none none none none) (by kernel_rfl) rfl ?_
  intro L s A1 E1 hA1 H env
  iterate 44 walk1
  have H : S C ((nd, ListI []) :: (L, NsI (frC hr nd (some (.bool false)) none none none none none none none)) :: fixC w hr hrd rt rtd dist ka npts nodes rg ha wa vn nl rest) _ := S.pick (ps := [(nd, _)]) H (by walk_at "pick") (by walk_at "sub")
  refine it_list H (.head _) fun it s' hit H => ?_
  refine for_nx1 (nx_list nd [] hit) hA1.hd (fun i its' => its' = (nd, ListI []) :: (L, NsI (frC hr nd (some (.bool false)) none none none none none none none)) :: fixC w hr hrd rt rtd dist ka npts nodes rg ha wa vn nl rest) ?_ rfl H ?_ ?_
  · rintro i l rfl
    exact .head _
  · rintro i v l s E' hi
    exact absurd hi (Nat.not_lt_zero _)
  · rintro l s E' rfl H
    repeat' walk1
    exact hQ _ (S.pick (ps := [(nd, _)]) H (by walk_at "pick") (by walk_at "sub"))

end Mc

namespace Mc
/-- a ring's places -/
structure Rg where
  hr : Addr
  hrd : Addr
  rt : Addr
  rtd : Addr
  dist : Addr
  npts : Addr
  nodes : Addr
  rg : Addr
  vn : Int
/-- what a ring holds -/
structure RS where
  m : MS
  nl : Nl
  ka : Addr
  ns : List Int
/-- a ring's items -/
noncomputable def rgIts (w : World) (ha wa : Addr) (r : Rg) (st : RS) : List Item :=
  (r.hr, InstI 390 r.hrd) :: (r.hrd, DictI (sk PP w) (hrA r.rt r.vn (.ref wa)) none) :: (r.rt, InstI 118 r.rtd) :: (r.rtd, DictI (sk PP w) (rtA r.dist st.ka r.npts r.nodes r.rg (.ref ha)) none) ::
  (r.dist, DictI (sk PP w) st.m.dl none) :: (st.ka, ListI (st.ns.map vi)) :: (r.npts, DictI (sk PP w) (plK st.m.pl) none) :: (r.nodes, DictI (sk PP w) (nlK st.nl) none) :: (r.rg, DictI (ik PP w) st.m.rl none) ::
  (ptsIts st.m.pl ++ nlIts w st.nl)
structure StOk (st : RS) : Prop where
  g : Good st.m
  nd : (st.nl.map (·.1)).Nodup
  pm : st.ns.Perm (st.m.rl.map (·.1))
  so : st.ns.Pairwise (· ≤ ·)
noncomputable abbrev rs0 (ka : Addr) : RS := ⟨⟨[], [], []⟩, [], ka, []⟩
theorem good0 : Good ⟨[], [], []⟩ := ⟨by simp, by simp, by simp, fun p hp => (by cases hp), by simp, by simp⟩
/-- keywords of a ring by a hash and a weight handed in -/
structure KwOk (kw : List (Str × Value)) (ha wa : Addr) (vn : Int) : Prop where
  hf : valueAt (kwKvs [] kw) "hash_fn" = some (.ref ha)
  vn : valueAt (kwKvs [] kw) "vnodes" = some (vi vn)
  wf : valueAt (kwKvs [] kw) "weight_fn" = some (.ref wa)
  md : valueAt (kwKvs [] kw) "md5" = none
  ks : ∀ p ∈ kw, p.1 ≠ "self" ∧ p.1 ≠ "nodes"
  len : kw.length ≤ 10
noncomputable def elsOf (nl : Nl) : List El := nl.map fun p => ⟨p.1, p.2.1, p.2.2.v, p.2.2.wt⟩
structure ElsOk (dom : Str → Prop) (nl : Nl) : Prop where
  b : ∀ p ∈ nl, 1 ≤ p.2.2.v ∧ p.2.2.v ≤ 1000 ∧ 1 ≤ p.2.2.wt ∧ p.2.2.wt ≤ 1000 ∧ p.1.length ≤ 100 ∧ ∀ k, k < (p.2.2.v * p.2.2.wt - 0).toNat → dom (keyN p.1 k)
  sum : ((elsOf nl).map El.cnt).sum < 64
  len : nl.length ≤ 900
theorem itok_items {w : World} {C : Cx} {nodes nv : Addr} (nl : Nl) (n : Nat) : ItOk w C nv (elsOf nl) [(nv, ViewI "dict_items" nodes), (nodes, DictI (sk PP w) (nlK nl) (some n))] [(nv, ViewI "dict_items" nodes), (nodes, DictI (sk PP w) (nlK nl) (some n))] where
  go := fun A its s Q E H hQ => it_items (knd := sk PP w) H (.head _) (.tail _ (.head _)) fun it s' hit H' => hQ it s' (ItemIt nodes (nlK nl).length n) hit
    ((nxT_items (knd := sk PP w) (kvs := nlK nl) n hit).conv (by simp [nlK, elsOf]) (fun i us ⟨k, X, key, v, hx, hu, hk, hv⟩ => by
      unfold nlK at hx
      rw [List.getElem?_map] at hx
      obtain ⟨q, hq, e⟩ := Option.map_eq_some_iff.mp hx
      obtain ⟨hi, hq⟩ := List.getElem?_eq_some_iff.mp hq
      cases e
      obtain ⟨t, rfl⟩ := Value.isStrOf_shape hk
      have hv := ref_of_er hv
      subst hv
      refine ⟨by unfold elsOf; rw [List.length_map]; exact hi, t, ?_⟩
      rw [hu]
      simp [elsOf, hq]) (fun its h => h _ (.tail _ (.head _)))) H'
  back := fun _ _ H => H
/-- HashRing([], hash_fn=.., vnodes=.., weight_fn=..) -/
theorem hr_init (w : World) (C : Cx) (hB : Bs PP w (hK w.params) gl C) (A : Around) (rest : List Item) (s : Shared) (Q E : Value → Shared → Prop) (ha wa : Addr) (fdH fdW : FuncData) (nd : Addr) (hA : Rm A 9 90) (hi : (ha, FnI fdH) ∈ rest) (hj : (wa, FnI fdW) ∈ rest) (kw : List (Str × Value)) (vn : Int) (hk : KwOk kw ha wa vn)
   (H : S C ((nd, ListI []) :: rest) s) 
   (hQ : ∀ r ka s', r.vn = vn → StOk (rs0 ka) → S C (rgIts w ha wa r (rs0 ka) ++ ((nd, ListI []) :: rest)) s' → Q (.ref r.hr) s') : wpAny (model PP w) A (call (.ref 390) [.ref nd] kw) Q E s := by
  have hks := hk.ks
  have hkl := hk.len
  have hkz := kwKvs_len kw []
  refine wpAny_call ?_
  refine r_make (D := 390) (fI := 143) H hB (by kernel_rfl) (by kernel_rfl) (by kernel_rfl) fun hr hrd s H => ?_
  have hA' := hA.under_make 390 [.ref nd] kw
  refine call_kwL H hB (hB.k H 143 _ rfl) rfl (codeRec_of (hB.k H) (by kernel_rfl)) rfl hA' rfl rfl (hB.k H 138 _ rfl) rfl hk.ks (by omega) (by kernel_rfl) (by kernel_rfl) (loc := [("hash_fn", none), ("vnodes", none), ("weight_fn", none), ("ketama_args", none)]) (by kernel_rfl) (by kernel_rfl) ?_
  intro kd L s A1 E1 hA1 H env
  have hk1 := hk.hf
  have hk2 := hk.vn
  have hk3 := hk.wf
  have hk4 := hk.md
  repeat' walk1
  refine mr_init w C hB _ _ _ _ _ ha fdH _ (hA1.le (by decide) (by decide)) H (by walk_at "mb") fun rt rtd dist ka npts nodes rg s H => ?_
  repeat' walk1
  have H : S C ((nd, ListI []) :: fixC w hr hrd rt rtd dist ka npts nodes rg ha wa vn [] ((dist, DictI (sk PP w) [] none) :: (ka, ListI []) :: (npts, DictI (sk PP w) [] none) :: (rg, DictI (ik PP w) [] none) :: rest)) s :=
    S.pick (ps := [(nd, _), (hr, _), (hrd, _), (rt, _), (rtd, _), (nodes, _), (dist, _), (ka, _), (npts, _), (rg, _)]) H (by walk_at "pick") (by walk_at "sub")
  refine conf_nil w C hB hr hrd rt rtd dist ka npts nodes rg ha wa vn [] nd A1 _ s _ _ (hA1.le (by decide) (by decide)) H fun s H => ?_
  repeat' walk1
  refine ⟨rfl, hQ ⟨hr, hrd, rt, rtd, dist, npts, nodes, rg, vn⟩ ka s rfl ⟨good0, List.nodup_nil, List.Perm.nil, List.Pairwise.nil⟩ ?_⟩
  have H : S C ([(hr, InstI 390 hrd), (hrd, DictI (sk PP w) (hrA rt vn (.ref wa)) none), (rt, InstI 118 rtd), (rtd, DictI (sk PP w) (rtA dist ka npts nodes rg (.ref ha)) none), (dist, DictI (sk PP w) [] none), (ka, ListI []), (npts, DictI (sk PP w) [] none), (nodes, DictI (sk PP w) [] none), (rg, DictI (ik PP w) [] none), (nd, ListI [])] ++ rest) s :=
    S.pick H (by walk_at "pick") (by walk_at "sub")
  exact H

end Mc

namespace Mc
/-- the property _nodes -/
theorem p_nodes (w : World) (C : Cx) (hB : Bs PP w (hK w.params) gl C) {A : Around} {its : List Item} {s : Shared} {Q E : Value → Shared → Prop} {hr hrd rt rtd dist ka npts nodes rg ha : Addr} {vn : Int} {wf : Value} {expr : Bool} (hA : Rm A 1 10) (H : S C its s) (h1 : (hr, InstI 390 hrd) ∈ its) (h2 : (hrd, DictI (sk PP w) (hrA rt vn wf) none) ∈ its) (h3 : (rt, InstI 118 rtd) ∈ its) (h4 : (rtd, DictI (sk PP w) (rtA dist ka npts nodes rg (.ref ha)) none) ∈ its)
   (hQ : ∀ s', S C its s' → Q (.ref nodes) s') : wpAny (model PP w) A (getAttr (.ref hr) "_nodes" expr) Q E s := by
  refine rc_prop H hB h1 (c390 w) h2 (p := 379) (fget := 378) (by walk_at "mb") fun s tk H => ?_
  have hA' : Rm A.in1 (0 + 1) (6 + 3) := Rm.in1 hA
  refine call_fnL H hB (hB.k H 378 _ rfl) rfl (codeRec_of (hB.k H) (by kernel_rfl)) rfl hA' (BindsTo.of_eq rfl) (by kernel_rfl) (by kernel_rfl) (loc := [("self", some (.ref hr))]) (by kernel_rfl) rfl ?_
  intro L s A1 E1 hA1 H env
  repeat' walk1
  exact handed_on rfl (hQ _ H.tail)
theorem perm_nl {α : Type} {X P N R : List α} : (X ++ (P ++ (N ++ R))).Perm (N ++ (X ++ (P ++ R))) := by
  have h1 : (P ++ (N ++ R)).Perm (N ++ (P ++ R)) := List.perm_append_comm_assoc _ _ _
  exact (h1.append_left X).trans (List.perm_append_comm_assoc _ _ _)
theorem perm_nl2 {α : Type} {X P N T R : List α} : (X ++ (P ++ (N ++ (T ++ R)))).Perm (N ++ (T ++ (X ++ (P ++ R)))) := perm_nl.trans (List.Perm.append_left N perm_nl)
theorem mem5 {x1 x2 x3 x4 x5 p : Item} {U : List Item} (h : p ∈ U) : p ∈ x1 :: x2 :: x3 :: x4 :: x5 :: U := by repeat (first | exact h | apply List.Mem.tail)
theorem Confs.one {f : Cf → Int} {vn : Int} {nl : Nl} {nd : Nd} {nl' : Nl} {b : Bool} (h : Confs f vn nl [nd] nl' b) : ∃ a, nl' = nlSet nl nd.name a (wcf f (confOf vn nd.name nd.nc)) ∧ b = chgOf f vn nd.name (nlAt nl nd.name) nd.nc := by
  generalize hl : [nd] = l at h
  cases h with
  | nil => cases hl
  | snoc h' =>
    rename_i nds nd' nl1 b1 a
    have h1 := congrArg List.length hl
    simp at h1
    have h2 : nds = [] := h1
    subst h2
    simp at hl
    subst hl
    generalize hz : ([] : List Nd) = z at h'
    cases h' with
    | nil => exact ⟨a, rfl, by simp⟩
    | snoc _ => simp at hz
theorem nlSet_mem {w : World} {nl : Nl} {name : Str} {a : Addr} {c : Cf} : (a, DictI (sk PP w) c.kvs none) ∈ nlIts w (nlSet nl name a c) := by
  unfold nlIts nlSet
  split
  · rename_i h
    obtain ⟨p, hp, e⟩ := List.mem_map.mp (List.contains_iff_mem.mp h)
    exact List.mem_map.mpr ⟨(p.1, a, c), List.mem_map.mpr ⟨p, hp, by rw [if_pos e]⟩, rfl⟩
  · exact List.mem_map.mpr ⟨(name, a, c), by simp, rfl⟩
theorem valueAt_stored {α : Type} [DecidableEq α] (l : List (α × Value)) (k : α) (v : Value) : valueAt (stored l k v) k = some v := by
  unfold stored
  split
  · rename_i h
    induction l with
    | nil => simp at h
    | cons p r ih =>
      unfold valueAt at ih ⊢
      rw [List.map_cons, List.find?_cons]
      by_cases q : p.1 = k
      · rw [if_pos q]; simp [q]
      · rw [if_neg q]
        simp only [q, decide_false]
        refine ih ?_
        rw [List.any_cons, decide_eq_false q, Bool.false_or] at h
        exact h
  · rename_i h
    unfold valueAt
    rw [List.find?_append, List.find?_eq_none.mpr fun p hp e => h (List.any_eq_true.mpr ⟨p, hp, e⟩)]
    simp
theorem NxT.conv2 {prog : Program} {w : World} {C : Cx} {it : Addr} {n n' : Nat} {elt elt' : Nat → List Value → Prop} {P : Nat → Obj → Prop} {need need' : List Item → Prop} (N : NxT prog w C it n elt P need) (hn : n = n') (he : ∀ i us, i < n → elt i us → elt' i us) (hneed : ∀ its, need' its → need its) : NxT prog w C it n' elt' P need' := by
  subst hn
  exact ⟨fun A its s Q E Y elts k pos i hA H hn hi h => N.next A its s Q E Y elts k pos i hA H (hneed _ hn) hi fun v t us s' e => h v t us s' (he _ _ hi e), fun A its s Q E hA H hn h => N.stop A its s Q E hA H (hneed _ hn) h⟩
theorem two_of_er {us : List Value} {name : Str} {a : Addr} (e : us.map er = [.str name 0, .ref a]) : ∃ t, us = [.str name t, .ref a] := by
  cases us with
  | nil => simp at e
  | cons u us =>
    cases us with
    | nil => simp at e
    | cons x us =>
      simp only [List.map_cons, List.cons.injEq, List.map_eq_nil_iff] at e
      obtain ⟨e1, e2, rfl⟩ := e
      obtain ⟨t, rfl⟩ := str_of_er e1
      have := ref_of_er e2
      subst this
      exact ⟨t, rfl⟩
theorem itok_one {w : World} {C : Cx} {nv tp : Addr} (name : Str) (a : Addr) (v wt : Int) : ItOk w C nv [⟨name, a, v, wt⟩] [(nv, ListI [.ref tp]), (tp, TupI [.str name 0, .ref a])] [(nv, ListI [.ref tp]), (tp, TupI [.str name 0, .ref a])] where
  go := fun A its s Q E H hQ => it_list H (.head _) fun it s' hit H' => hQ it s' (ListIt nv) hit
    (NxT.conv2 (nxT_list nv [tp] (fun _ => [.str name 0, .ref a]) hit) rfl (fun i us hi e => by
      obtain ⟨t, rfl⟩ := two_of_er e
      have : i = 0 := by simp at hi; omega
      subst this
      exact ⟨by simp, t, rfl⟩) (fun its h => ⟨h _ (.head _), fun i hi => by
      have : i = 0 := by simp at hi; omega
      subst this
      exact h _ (.tail _ (.head _))⟩)) H'
  back := fun _ _ H => H
theorem Lays.one {h : Str → Int} {m : MS} {e : El} {m' : MS} (hl : Lays h m [e] m') : ∃ a, m' = layF h e.name e.cnt a m := by
  generalize hq : [e] = l at hl
  cases hl with
  | nil => cases hq
  | snoc h' =>
    rename_i es e' a m1
    have h1 := congrArg List.length hq
    simp at h1
    have h2 : es = [] := h1
    subst h2
    simp at hq
    subst hq
    generalize hz : ([] : List El) = z at h'
    cases h' with
    | nil => exact ⟨a, rfl⟩
    | snoc _ => simp at hz
set_option hygiene false in
local macro_rules | `(tactic| walk_at "getAttr ref") => `(tactic| ((with_reducible show wpAny _ _ (getAttr _ (Str.ofString "_nodes") _) _ _ _); with_reducible refine p_nodes _ _ hB (Rm.le hA1 (by decide) (by decide)) H (by k_dflt (walk_at "mb")) (by k_dflt (walk_at "mb")) (by k_dflt (walk_at "mb")) (by k_dflt (walk_at "mb")) ?_; (try clear H); (try clear s); intro s H))
/-- a node comes, or comes again -/
theorem ring_add (w : World) (C : Cx) (hB : Bs PP w (hK w.params) gl C) (wS : List Item) (seen : Addr) (tw : Cf → Int) (domW : Cf → Prop) (wa : Addr) (hw : WOk w C wa wS seen tw domW) (g0 : List (Addr × Cf)) (ha : Addr) (hIts : List Item) (h : Str → Int) (dom : Str → Prop) (hh : HOk w C ha hIts h dom) (r : Rg) (st : RS) (g : StOk st)
   (A : Around) (rest : List Item) (s : Shared) (Q E : Value → Shared → Prop) (name : Str) (t : Tok) (ca : Addr) (row : List (Str × Value)) (hA : Rm A 8 80) (hr0 : ∀ p ∈ hIts, p ∈ rest) (hw0 : ∀ p ∈ wS, p ∈ rest) (hrow : (Nc.row ca row).ok w rest) (hz : st.nl.length ≤ 800) (hz2 : st.m.dl.length + 1 ≤ 1000) (hz3 : st.m.pl.length + 1 ≤ 1000) (zg : g0.length + 1 ≤ 10000)
   (hdw : domW (confOf r.vn name (.row ca row)))
   (c : Cf) (hc : c = wcf tw (confOf r.vn name (.row ca row))) (hb : 1 ≤ c.v ∧ c.v ≤ 1000 ∧ 1 ≤ c.wt ∧ c.wt ≤ 1000) (hn : name.length ≤ 100) (hdom : ∀ k, k < (c.v * c.wt - 0).toNat → dom (keyN name k)) (hsz : st.m.rl.length + (c.v * c.wt - 0).toNat < 64)
   (H : S C (rgIts w ha wa r st ++ (toldIts seen g0 ++ rest)) s)
   (hQ1 : ∀ a pa ka ns g' s', chgOf tw r.vn name (nlAt st.nl name) (.row ca row) = true → g'.map (·.2) = g0.map (·.2) ++ [confOf r.vn name (.row ca row)] → StOk ⟨layF h name (c.v * c.wt - 0).toNat pa st.m, nlSet st.nl name a c, ka, ns⟩ → S C (rgIts w ha wa r ⟨layF h name (c.v * c.wt - 0).toNat pa st.m, nlSet st.nl name a c, ka, ns⟩ ++ (toldIts seen g' ++ rest)) s' → Q .none s')
   (hQ2 : ∀ a g' s', chgOf tw r.vn name (nlAt st.nl name) (.row ca row) = false → g'.map (·.2) = g0.map (·.2) ++ [confOf r.vn name (.row ca row)] → StOk ⟨st.m, nlSet st.nl name a c, st.ka, st.ns⟩ → S C (rgIts w ha wa r ⟨st.m, nlSet st.nl name a c, st.ka, st.ns⟩ ++ (toldIts seen g' ++ rest)) s' → Q .none s') : wpAny (model PP w) A (call (.ref 203) [.ref r.hr, .str name t, .ref ca]) Q E s := by
  obtain ⟨hr, hrd, rt, rtd, dist, npts, nodes, rg, vn⟩ := r
  obtain ⟨m, nl, ka, ns⟩ := st
  dsimp only at *
  unfold rgIts at H
  dsimp only at H
  simp only [List.cons_append, List.append_assoc] at H
  · refine wpAny_call ?_
    refine call_fnL H hB (hB.k H 203 _ rfl) rfl (codeRec_of (hB.k H) (by kernel_rfl)) rfl hA (binds_K (hB.k H) rfl (T := 196) rfl rfl rfl rfl) (by kernel_rfl) (by kernel_rfl) (loc := [("self", some (.ref hr)), ("nodename", some (.str name 0)), ("conf", some (.ref ca))]) (by kernel_rfl) rfl ?_
    intro L s A1 E1 hA1 H env
    iterate 17 walk1
    rename_i nd _
    have H : S C ((nd, DictI (sk PP w) [(name, .ref ca)] none) :: (hr, InstI 390 hrd) :: (hrd, DictI (sk PP w) (hrA rt vn (.ref wa)) none) :: (rt, InstI 118 rtd) :: (rtd, DictI (sk PP w) (rtA dist ka npts nodes rg (.ref ha)) none) :: (nodes, DictI (sk PP w) (nlK nl) none) ::
       (dist, DictI (sk PP w) m.dl none) :: (ka, ListI (ns.map vi)) :: (npts, DictI (sk PP w) (plK m.pl) none) :: (rg, DictI (ik PP w) m.rl none) :: (L, NsI [("self", some (.ref hr)), ("nodename", some (.str name 0)), ("conf", some (.ref ca))]) :: (ptsIts m.pl ++ (nlIts w nl ++ (toldIts seen g0 ++ rest)))) s :=
      S.pick (ps := [(nd, _), (hr, _), (hrd, _), (rt, _), (rtd, _), (nodes, _), (dist, _), (ka, _), (npts, _), (rg, _), (L, _)]) H (by walk_at "pick") (by walk_at "sub")
    have H := H.perm (List.Perm.append_left [_, _, _, _, _, _] (perm_nl2 (X := [_, _, _, _, _]) (P := ptsIts m.pl) (N := nlIts w nl) (T := toldIts seen g0) (R := rest)))
    simp only [List.cons_append, List.nil_append] at H
    refine conf_dict w C hB wS seen tw domW hr hrd rt rtd dist ka npts nodes rg ha wa hw vn nl [⟨name, .row ca row⟩] nd g0 (by simp) g.nd (by simp; omega) zg A1 _ s _ _ (hA1.le (by decide) (by decide)) (fun p hp => mem5 (List.mem_append_right _ (hw0 p hp))) (fun e he => ?_) (fun e he => ?_) H fun nl' b g' s hcs hg' H => ?_
    · rw [List.mem_singleton] at he
      subst he
      exact ⟨List.mem_append_right _ (mem5 (List.mem_append_right _ hrow.1)), hrow.2⟩
    · rw [List.mem_singleton] at he
      subst he
      exact hdw
    obtain ⟨a, rfl, rfl⟩ := hcs.one
    rw [← hc] at H
    have hg' : g'.map (·.2) = g0.map (·.2) ++ [confOf vn name (.row ca row)] := hg'
    have hmc : (a, DictI (sk PP w) c.kvs none) ∈ nlIts w (nlSet nl name a c) := nlSet_mem
    obtain ⟨bq, hbq⟩ : ∃ bq, chgOf tw vn name (nlAt nl name) (.row ca row) = bq := ⟨_, rfl⟩
    rw [show chgOf tw vn (Nd.name ⟨name, .row ca row⟩) (nlAt nl (Nd.name ⟨name, .row ca row⟩)) (Nd.nc ⟨name, .row ca row⟩) = bq from hbq]
    have gn : ((nlSet nl name a c).map (·.1)).Nodup := nlSet_nodup g.nd
    cases bq with
    | false =>
      repeat' walk1
      have H := H.perm (List.Perm.append_left [_, _, _, _, _, _] (perm_nl2 (X := [_, _, _, _, _]) (P := ptsIts m.pl) (N := nlIts w (nlSet nl name a c)) (T := toldIts seen g') (R := rest)).symm)
      simp only [List.cons_append, List.nil_append] at H
      refine hQ2 a g' s hbq hg' ⟨g.g, gn, g.pm, g.so⟩ ?_
      unfold rgIts
      simp only [List.cons_append, List.append_assoc]
      exact S.pick (ps := [(hr, _), (hrd, _), (rt, _), (rtd, _), (dist, _), (ka, _), (npts, _), (nodes, _), (rg, _)]) H (by walk_at "pick") (by walk_at "sub")
    | true =>
      have hv : valueAt (nlK (nlSet nl name a c)) name = some (.ref a) := by rw [nlK_set]; exact valueAt_stored _ _ _
      repeat' walk1
      rename_i tp nv
      have H := H.perm (List.Perm.append_left [_, _, _, _, _, _, _, _] (perm_nl2 (X := [_, _, _, _, _]) (P := ptsIts m.pl) (N := nlIts w (nlSet nl name a c)) (T := toldIts seen g') (R := rest)).symm)
      simp only [List.cons_append, List.nil_append] at H
      have H : S C (fixA w rt rtd dist ka npts nodes rg ha (ns.map vi) m ++ ([(nv, ListI [.ref tp]), (tp, TupI [.str name 0, .ref a])] ++ (ptsIts m.pl ++ (nlIts w (nlSet nl name a c) ++ ((hr, InstI 390 hrd) :: (hrd, DictI (sk PP w) (hrA rt vn (.ref wa)) none) :: (nodes, DictI (sk PP w) (nlK (nlSet nl name a c)) none) :: (toldIts seen g' ++ rest)))))) s := by
        have H : S C ([(rt, InstI 118 rtd), (rtd, DictI (sk PP w) (rtA dist ka npts nodes rg (.ref ha)) none), (dist, DictI (sk PP w) m.dl none), (ka, ListI (ns.map vi)), (npts, DictI (sk PP w) (plK m.pl) none), (rg, DictI (ik PP w) m.rl none), (nv, ListI [.ref tp]), (tp, TupI [.str name 0, .ref a])] ++ ([(hr, InstI 390 hrd), (hrd, DictI (sk PP w) (hrA rt vn (.ref wa)) none), (nodes, DictI (sk PP w) (nlK (nlSet nl name a c)) none)] ++ (ptsIts m.pl ++ (nlIts w (nlSet nl name a c) ++ (toldIts seen g' ++ rest))))) s :=
          S.pick (ps := [(rt, _), (rtd, _), (dist, _), (ka, _), (npts, _), (rg, _), (nv, _), (tp, _), (hr, _), (hrd, _), (nodes, _)]) H (by walk_at "pick") (by walk_at "sub")
        refine H.perm (List.Perm.append_left [_, _, _, _, _, _, _, _] ?_)
        exact (List.perm_append_comm_assoc _ _ _).trans (List.Perm.append_left _ (List.perm_append_comm_assoc _ _ _))
      refine create_ring w C hB rt rtd dist ka npts nodes rg ha nv _ m hIts h dom hh [⟨name, a, c.v, c.wt⟩] _ _ (itok_one name a c.v c.wt) g.g (fun e he => ?_) (H.sysm (by walk_at "mb")) (H.sysm (by walk_at "mb")) (H.sysm (by walk_at "mb")) (fun e he => ?_) (by simpa using hz2) (by simpa using hz3) (by simpa [El.cnt] using hsz) A1 _ s _ _ (hA1.le (by decide) (by decide)) (fun p hp => ?_) (fun e he => ?_) H fun ka' ns' m' s hl hpm hso H => ?_
      · rw [List.mem_singleton] at he
        subst he
        exact hdom
      · rw [List.mem_singleton] at he
        subst he
        exact hn
      · exact List.mem_append_right _ (.tail _ (.tail _ (.tail _ (List.mem_append_right _ (hr0 p hp)))))
      · rw [List.mem_singleton] at he
        subst he
        exact ⟨c.kvs, List.mem_append_left _ hmc, cf_v _, cf_wt _, hb.1, hb.2.1, hb.2.2.1, hb.2.2.2⟩
      · obtain ⟨pa, rfl⟩ := hl.one
        repeat' walk1
        refine hQ1 a pa ka' ns' g' s hbq hg' ⟨g.g.layF ?_, gn, hpm, hso⟩ ?_
        · have c1 : 1 * 1 ≤ c.v * c.wt := Int.mul_le_mul hb.1 hb.2.2.1 (by decide) (by omega)
          have c2 : c.v * c.wt ≤ 1000 * 1000 := Int.mul_le_mul hb.2.1 hb.2.2.2 (by omega) (by decide)
          omega
        · unfold rgIts
          simp only [List.cons_append, List.append_assoc]
          have H : S C ([(rt, InstI 118 rtd), (rtd, DictI (sk PP w) (rtA dist ka' npts nodes rg (.ref ha)) none), (dist, DictI (sk PP w) (layF h name (c.v * c.wt - 0).toNat pa m).dl none), (ka', ListI (ns'.map vi)), (npts, DictI (sk PP w) (plK (layF h name (c.v * c.wt - 0).toNat pa m).pl) none), (rg, DictI (ik PP w) (layF h name (c.v * c.wt - 0).toNat pa m).rl none)] ++ (ptsIts (layF h name (c.v * c.wt - 0).toNat pa m).pl ++ (nlIts w (nlSet nl name a c) ++ ([(hr, InstI 390 hrd), (hrd, DictI (sk PP w) (hrA rt vn (.ref wa)) none), (nodes, DictI (sk PP w) (nlK (nlSet nl name a c)) none)] ++ (toldIts seen g' ++ rest))))) s :=
            S.mono H (List.Sublist.append_left (List.sublist_append_right _ _) _)
          have H := H.perm (List.Perm.append_left [_, _, _, _, _, _] ((List.Perm.append_left (ptsIts (layF h name (c.v * c.wt - 0).toNat pa m).pl) (List.perm_append_comm_assoc (nlIts w (nlSet nl name a c)) [_, _, _] (toldIts seen g' ++ rest))).trans (List.perm_append_comm_assoc _ [_, _, _] _)))
          simp only [List.cons_append, List.nil_append] at H
          exact S.pick (ps := [(hr, _), (hrd, _), (rt, _), (rtd, _), (dist, _), (ka', _), (npts, _), (nodes, _), (rg, _)]) H (by walk_at "pick") (by walk_at "sub")

end Mc

namespace Mc
noncomputable def nlW (nl : Nl) (name : Str) : Nl := nl.filter fun p => decide (p.1 ≠ name)
theorem nlK_without {nl : Nl} {name : Str} : without (nlK nl) name = nlK (nlW nl name) := by unfold nlK nlW without; rw [List.filter_map]; rfl
theorem nlW_sub {w : World} {nl : Nl} {name : Str} : (nlIts w (nlW nl name)).Sublist (nlIts w nl) := by unfold nlIts nlW; exact List.filter_sublist.map _
/-- a node goes -/
noncomputable def rmF (name : Str) (m : MS) : MS := ⟨without m.dl name, plW m.pl name, (olds m.pl name).foldl (dropP name) m.rl⟩
theorem Good.rm {name : Str} {m : MS} (g : Good m) : Good (rmF name m) := by
  have hk : ∀ n, n ∈ (plW m.pl name).map (·.1) ↔ n ∈ m.pl.map (·.1) ∧ n ≠ name := fun n => by
    have := without_keys (l := plK m.pl) (k := name) (j := n)
    rw [plK_without, plK_keys, plK_keys] at this
    exact this
  refine ⟨g.nd.sublist (List.filter_sublist.map _), fun n hn => ?_, fun p hp => g.ne p (List.mem_filter.mp hp).1, Strs.dropPs g.st, fun n hn => ?_, fun p hp => g.sh p (List.mem_filter.mp hp).1⟩
  · have := without_keys.mp hn
    exact (hk n).mpr ⟨g.sub n this.1, this.2⟩
  · obtain ⟨h1, h2⟩ := (hk n).mp hn
    obtain ⟨c, hc⟩ := g.has n h1
    exact ⟨c, by show valueAt (without m.dl name) n = _; rw [valueAt_without h2]; exact hc⟩
theorem ring_rm (w : World) (C : Cx) (hB : Bs PP w (hK w.params) gl C) (ha wa : Addr) (r : Rg) (st : RS) (g : StOk st)
   (A : Around) (rest : List Item) (s : Shared) (Q E : Value → Shared → Prop) (name : Str) (t : Tok) (hA : Rm A 3 30) (hn : name ∈ st.nl.map (·.1)) (hp : name ∈ st.m.pl.map (·.1)) (hz : st.nl.length ≤ 800) (hz2 : st.m.dl.length ≤ 900) (hz3 : st.m.pl.length ≤ 900) (hz4 : st.m.rl.length < 64)
   (H : S C (rgIts w ha wa r st ++ rest) s)
   (hQ : ∀ ka ns s', StOk ⟨rmF name st.m, nlW st.nl name, ka, ns⟩ → S C (rgIts w ha wa r ⟨rmF name st.m, nlW st.nl name, ka, ns⟩ ++ rest) s' → Q .none s') : wpAny (model PP w) A (call (.ref 171) [.ref r.hr, .str name t]) Q E s := by
  obtain ⟨hr, hrd, rt, rtd, dist, npts, nodes, rg, vn⟩ := r
  obtain ⟨m, nl, ka, ns⟩ := st
  dsimp only at *
  unfold rgIts at H
  dsimp only at H
  simp only [List.cons_append, List.append_assoc] at H
  refine wpAny_call ?_
  refine call_fnL H hB (hB.k H 171 _ rfl) rfl (codeRec_of (hB.k H) (by kernel_rfl)) rfl hA (BindsTo.of_eq rfl) (by kernel_rfl) (by kernel_rfl) (loc := [("self", some (.ref hr)), ("nodename", some (.str name 0))]) (by kernel_rfl) rfl ?_
  intro L s A1 E1 hA1 H env
  repeat' walk1
  obtain ⟨l1, l2, a0, c0, el, h1, h2⟩ := nl_split hn g.nd
  obtain ⟨⟨n', l, ps⟩, h3, h4⟩ := List.mem_map.mp hp
  obtain ⟨p1, p2, h5⟩ := List.append_of_mem h3
  have h4 : n' = name := h4
  subst h4
  have gnd := g.g.nd
  dsimp only at el h5 gnd
  have e1 : plW m.pl n' = p1 ++ p2 := by rw [h5]; exact plW_mid (by rw [← h5]; exact gnd)
  have e2 : olds m.pl n' = ps := by rw [h5]; exact olds_mid (by rw [← h5]; exact gnd)
  have e3 : valueAt (plK m.pl) n' = some (.ref l) := by rw [h5]; exact plK_at (by rw [← h5]; exact gnd)
  have e5 : valueAt (nlK nl) n' = some (.ref a0) := by rw [el]; exact nlK_mid h1
  obtain ⟨X, e4⟩ := g.g.has n' hp
  have H : S C ([(rt, InstI 118 rtd), (rtd, DictI (sk PP w) (rtA dist ka npts nodes rg (.ref ha)) none), (dist, DictI (sk PP w) m.dl none), (ka, ListI (ns.map vi)), (npts, DictI (sk PP w) (plK m.pl) none), (nodes, DictI (sk PP w) (nlK nl) none), (rg, DictI (ik PP w) m.rl none), (l, ListI (ps.map vi))] ++ ((hr, InstI 390 hrd) :: (hrd, DictI (sk PP w) (hrA rt vn (.ref wa)) none) :: (ptsIts (p1 ++ p2) ++ (nlIts w nl ++ rest)))) s := by
    rw [h5] at H
    have hpp := pts_perm (pl1 := p1) (pl2 := p2) (name := n') (l := l) (ps := ps) (A := []) (N := []) (R := nlIts w nl ++ rest)
    simp only [List.nil_append] at hpp
    have H := H.perm (List.Perm.append_left [_, _, _, _, _, _, _, _, _, _] hpp)
    simp only [List.cons_append, List.nil_append] at H
    have e6 : plK (p1 ++ (n', l, ps) :: p2) = plK m.pl := by rw [h5]
    rw [e6] at H
    exact S.pick (ps := [(rt, _), (rtd, _), (dist, _), (ka, _), (npts, _), (nodes, _), (rg, _), (l, _), (hr, _), (hrd, _)]) H (by walk_at "pick") (by walk_at "sub")
  refine rm w C hB rt rtd dist ka npts nodes rg l m.dl (nlK nl) (plK m.pl) m.rl (ns.map vi) ps n' _ a0 (.ref ha) e5 e3 X e4 (H.sysm (by walk_at "mb")) (H.sysm (by walk_at "mb")) (by unfold nlK; rw [List.length_map]; omega) (by rw [plK_len]; omega) (by omega) hz4 g.g.st A1 _ s _ _ (hA1.le (by decide) (by decide)) H fun v P' s ⟨ev, ka', ns', hpm, hso, eP⟩ H => ?_
  subst ev eP
  rw [plK_without, nlK_without] at H
  repeat' walk1
  have gr := g.g.rm (name := n')
  have hst : StOk ⟨rmF n' m, nlW nl n', ka', ns'⟩ := ⟨gr, g.nd.sublist (List.filter_sublist.map _), by show ns'.Perm (((olds m.pl n').foldl (dropP n') m.rl).map (·.1)); rw [e2]; exact hpm, hso⟩
  refine hQ ka' ns' s hst ?_
  unfold rgIts rmF
  dsimp only
  rw [e1, e2]
  simp only [List.cons_append, List.append_assoc]
  have H : S C ([(hr, InstI 390 hrd), (hrd, DictI (sk PP w) (hrA rt vn (.ref wa)) none), (rt, InstI 118 rtd), (rtd, DictI (sk PP w) (rtA dist ka' npts nodes rg (.ref ha)) none), (dist, DictI (sk PP w) (without m.dl n') none), (ka', ListI (ns'.map vi)), (npts, DictI (sk PP w) (plK (plW m.pl n')) none), (nodes, DictI (sk PP w) (nlK (nlW nl n')) none), (rg, DictI (ik PP w) (ps.foldl (dropP n') m.rl) none)] ++ (ptsIts (p1 ++ p2) ++ (nlIts w nl ++ rest))) s :=
    S.pick H (by walk_at "pick") (by walk_at "sub")
  rw [e1] at H
  exact S.mono H (List.Sublist.append_left (List.Sublist.append_left (nlW_sub.append_right _) _) [_, _, _, _, _, _, _, _, _])

end Mc

namespace Mc
noncomputable def ptsOf (ns : List Int) (rl : List (Int × Value)) : List (List Value) := ns.map fun k => [vi k, (valueAt rl k).getD .none]
/-- get_points -/
theorem ring_points (w : World) (C : Cx) (hB : Bs PP w (hK w.params) gl C) (hr hrd rt rtd dist ka npts nodes rg ha : Addr) (vn : Int) (wf : Value) (ns : List Int) (rl : List (Int × Value)) (hz : ns.length < 64) (hp : ns.Perm (rl.map (·.1))) (hst : Strs rl)
   (A : Around) (its : List Item) (s : Shared) (Q E : Value → Shared → Prop) (hA : Rm A 2 20) (H : S C its s) (h3 : (hr, InstI 390 hrd) ∈ its) (h4 : (hrd, DictI (sk PP w) (hrA rt vn wf) none) ∈ its) (h1 : (rt, InstI 118 rtd) ∈ its) (h2 : (rtd, DictI (sk PP w) (rtA dist ka npts nodes rg (.ref ha)) none) ∈ its) (h5 : (ka, ListI (ns.map vi)) ∈ its) (h6 : (rg, DictI (ik PP w) rl none) ∈ its)
   (hQ : ∀ D ts s', ts.length = ns.length → S C ((D, ListI (ts.map .ref)) :: (tupIts ts (ptsOf ns rl) ++ its)) s' → Q (.ref D) s') : wpAny (model PP w) A (call (.ref 285) [.ref hr]) Q E s := by
  refine wpAny_call ?_
  refine call_cellL (fun L => [(L + 1, CellI (some (.ref hr)))]) H hB (hB.k H 285 _ rfl) rfl (codeRec_of (hB.k H) (by kernel_rfl)) rfl hA (BindsTo.of_eq rfl) rfl (fun _ => by kernel_rfl) (loc := []) (by kernel_rfl) (fun _ => rfl) (fun _ => rfl) (fun _ => by kernel_rfl) ?_
  intro L s A1 E1 hA1 H env
  simp only [List.cons_append, List.nil_append] at H
  iterate 2 walk1
  refine lc_eval (cl := [("self", L + 1)]) rfl rfl (by decide) ?_
  repeat' walk1
  rename_i it hit
  refine lc_go1 (nx_list ka (ns.map vi) hit) hA1.hd (fun i ys l => ∃ ts : List Addr, ys = ts.map .ref ∧ ts.length = i ∧ l = tupIts ts ((ptsOf ns rl).take i) ++ ((L, NsI []) :: (L + 1, CellI (some (.ref hr))) :: its)) ?_ (by decide) rfl rfl (by rw [List.length_map]; omega) (fun Q' E' its' s' H' h' => self_list H' h') ⟨[], rfl, rfl, rfl⟩ H ?_ ?_
  · rintro i ys l p q ⟨ts, _, _, rfl⟩
    exact .tail _ (.tail _ (List.mem_append_right _ (.tail _ (.tail _ h5))))
  · rintro i v ys l cf D s E' hi ⟨X, hx, he⟩ ⟨ts, rfl, hts, rfl⟩ hyl H QI hQI
    have hi' : i < ns.length := by simpa using hi
    rw [List.getElem?_map, List.getElem?_eq_getElem hi'] at hx
    cases hx
    obtain ⟨t, rfl⟩ := int_of_er he
    have hmem : ns[i] ∈ rl.map (·.1) := hp.mem_iff.mp (List.getElem_mem hi')
    have hv : ∃ Y, valueAt rl ns[i] = some Y := by
      obtain ⟨q, hq, hqe⟩ := List.mem_map.mp hmem
      cases hv : valueAt rl ns[i] with
      | none =>
        unfold valueAt at hv
        rw [Option.map_eq_none_iff, List.find?_eq_none] at hv
        exact absurd (by simpa using hqe) (hv q hq)
      | some Y => exact ⟨Y, rfl⟩
    obtain ⟨Y, hv⟩ := hv
    obtain ⟨nm, rfl⟩ := hst.at hv
    repeat' walk1
    rename_i tp
    have hd : (ptsOf ns rl).take (i + 1) = (ptsOf ns rl).take i ++ [[vi ns[i], vs nm]] := by
      have hg : (ptsOf ns rl)[i]? = some [vi ns[i], vs nm] := by
        unfold ptsOf
        rw [List.getElem?_map, List.getElem?_eq_getElem hi']
        simp only [Option.map_some, hv]; rfl
      rw [List.take_add_one, hg]; rfl
    have hlen : ts.length = ((ptsOf ns rl).take i).length := by
      rw [List.length_take]; unfold ptsOf; rw [List.length_map]; omega
    refine hQI _ _ _ ⟨ts ++ [tp], by rw [List.map_append]; rfl, by simp [hts], rfl⟩ ?_
    rw [hd, tupIts_snoc hlen]
    refine H.perm ?_
    have hpp := List.perm_middle (a := ((tp, TupI [vi ns[i], vs nm]) : Item)) (l₁ := (cf, NsI [(("k" : Str), some (er (Value.int ns[i] t)))]) :: (D, ListI (ts.map .ref)) :: (it, ListIt ka (i + 1)) :: tupIts ts ((ptsOf ns rl).take i)) (l₂ := (L, NsI []) :: (L + 1, CellI (some (.ref hr))) :: its)
    simpa [List.append_assoc] using hpp.symm
  · rintro ys l cf X D s ⟨ts, rfl, hts, rfl⟩ hyl hcf H
    refine post_none H hcf fun s H => ?_
    rw [List.length_map] at hts
    have hd : (ptsOf ns rl).take (ns.map vi).length = ptsOf ns rl := List.take_of_length_le (by unfold ptsOf; simp)
    rw [List.length_map] at hd
    rw [List.length_map, hd] at H
    refine hQ D ts s hts (S.mono H (List.Sublist.cons_cons _ (List.Sublist.append_left (List.Sublist.cons _ (List.Sublist.cons _ (List.Sublist.refl _))) _)))

end Mc

namespace Mc
noncomputable def ndsOf (nl : Nl) : List Nd := nl.map fun p => ⟨p.1, .row p.2.1 p.2.2.kvs⟩
theorem ndK_of (nl : Nl) : ndK (ndsOf nl) = nlK nl := by unfold ndK ndsOf nlK; rw [List.map_map]; rfl
theorem ndsOf_names (nl : Nl) : (ndsOf nl).map (·.name) = nl.map (·.1) := by unfold ndsOf; rw [List.map_map]; rfl
theorem confOf_own (vn : Int) (name : Str) (a : Addr) (c : Cf) : confOf vn name (.row a c.kvs) = c := by kernel_rfl
/-- names and rows, without their places -/
noncomputable def nlC (nl : Nl) : List (Str × Cf) := nl.map fun p => (p.1, p.2.2)
noncomputable def ncSet (l : List (Str × Cf)) (name : Str) (c : Cf) : List (Str × Cf) := if (l.map (·.1)).contains name then l.map (fun p => if p.1 = name then (p.1, c) else p) else l ++ [(name, c)]
theorem nlC_keys (nl : Nl) : (nlC nl).map (·.1) = nl.map (·.1) := by unfold nlC; rw [List.map_map]; rfl
theorem nlC_set (nl : Nl) (name : Str) (a : Addr) (c : Cf) : nlC (nlSet nl name a c) = ncSet (nlC nl) name c := by
  unfold nlSet ncSet
  rw [nlC_keys]
  split
  · unfold nlC
    rw [List.map_map, List.map_map]
    refine List.map_congr_left fun p _ => ?_
    simp only [Function.comp]
    split <;> rfl
  · unfold nlC; rw [List.map_append]; rfl
theorem nlC_len (nl : Nl) : (nlC nl).length = nl.length := by unfold nlC; rw [List.length_map]
theorem nlC_nlW (nl : Nl) (name : Str) : nlC (nlW nl name) = (nlC nl).filter fun p => decide (p.1 ≠ name) := by unfold nlC nlW; rw [List.filter_map]; rfl
theorem ncSet_mid {l1 l2 : List (Str × Cf)} {name : Str} {c c' : Cf} (h1 : name ∉ l1.map (·.1)) (h2 : name ∉ l2.map (·.1)) : ncSet (l1 ++ (name, c) :: l2) name c' = l1 ++ (name, c') :: l2 := by
  unfold ncSet
  rw [if_pos (List.contains_iff_mem.mpr (by simp))]
  have e : ∀ l : List (Str × Cf), name ∉ l.map (·.1) → l.map (fun p => if p.1 = name then (p.1, c') else p) = l := fun l hl => by
    conv => rhs; rw [← List.map_id l]
    refine List.map_congr_left fun p hp => ?_
    rw [if_neg fun q => hl (by rw [← q]; exact List.mem_map_of_mem (f := (·.1)) hp)]; rfl
  rw [List.map_append, List.map_cons, e l1 h1, e l2 h2, if_pos rfl]
/-- all rows are told anew -/
theorem Confs.regen {f : Cf → Int} {vn : Int} {nl : Nl} (hn : (nl.map (·.1)).Nodup) {nds nl' b} (h : Confs f vn nl nds nl' b) : ∀ k, k ≤ nl.length → nds = (ndsOf nl).take k → nlC nl' = ((nlC nl).take k).map (fun p => (p.1, wcf f p.2)) ++ (nlC nl).drop k := by
  induction h with
  | nil =>
    intro k hk e
    have e1 := congrArg List.length e
    rw [List.length_take, ndsOf, List.length_map] at e1
    have : k = 0 := by simp at e1; omega
    subst this
    rfl
  | @snoc nds nd nl' b a h ih =>
    intro k hk e
    have e1 := congrArg List.length e
    rw [List.length_take, List.length_append] at e1
    have hl : (ndsOf nl).length = nl.length := by unfold ndsOf; rw [List.length_map]
    obtain ⟨j, rfl⟩ : ∃ j, k = j + 1 := ⟨k - 1, by simp at e1; omega⟩
    have hj : j < nl.length := by omega
    have e2 : (ndsOf nl).take (j + 1) = (ndsOf nl).take j ++ [⟨nl[j].1, .row nl[j].2.1 nl[j].2.2.kvs⟩] := by
      rw [List.take_add_one]
      congr 1
      unfold ndsOf
      rw [List.getElem?_map, List.getElem?_eq_getElem hj]; rfl
    rw [e2] at e
    obtain ⟨e3, e4⟩ := List.append_inj' e rfl
    have ih := ih j (by omega) e3
    simp only [List.cons.injEq, and_true] at e4
    subst e4
    rw [nlC_set, confOf_own, ih]
    have hj' : j < (nlC nl).length := by rw [nlC_len]; exact hj
    have hcj : (nlC nl)[j] = (nl[j].1, nl[j].2.2) := by simp [nlC]
    have e5 : (nlC nl).drop j = (nl[j].1, nl[j].2.2) :: (nlC nl).drop (j + 1) := by rw [List.drop_eq_getElem_cons hj', hcj]
    have e6 : (nlC nl).take (j + 1) = (nlC nl).take j ++ [(nl[j].1, nl[j].2.2)] := by rw [List.take_add_one, List.getElem?_eq_getElem hj', hcj]; rfl
    have hnd : ((nlC nl).map (·.1)).Nodup := by rw [nlC_keys]; exact hn
    rw [← List.take_append_drop j (nlC nl), e5, List.map_append, List.map_cons, List.nodup_append, List.nodup_cons] at hnd
    dsimp only at hnd ⊢
    rw [e5, ncSet_mid (fun q => ?_) hnd.2.1.1, e6, List.map_append, List.append_assoc]
    · rfl
    · rw [List.map_map] at q
      exact hnd.2.2 _ q _ (.head _) rfl
theorem Confs.regen' {f : Cf → Int} {vn : Int} {nl : Nl} (hn : (nl.map (·.1)).Nodup) {nl' b} (h : Confs f vn nl (ndsOf nl) nl' b) : nlC nl' = (nlC nl).map fun p => (p.1, wcf f p.2) := by
  have hl : (ndsOf nl).length = nl.length := by unfold ndsOf; rw [List.length_map]
  have := h.regen hn nl.length (Nat.le_refl _) (by rw [List.take_of_length_le (by omega)])
  rw [List.take_of_length_le (by rw [nlC_len]; exact Nat.le_refl _), List.drop_of_length_le (by rw [nlC_len]; exact Nat.le_refl _), List.append_nil] at this
  exact this
theorem rowok_own (c : Cf) : RowOk c.kvs := by
  intro p hp
  simp only [Cf.kvs, List.mem_cons, List.not_mem_nil, or_false] at hp
  rcases hp with rfl | rfl | rfl | rfl | rfl | rfl
  · exact ⟨fun h => absurd (show Str.ofString "hostname" = Str.ofString "nodename" from h) (by decide +kernel), fun h => absurd (show Str.ofString "hostname" = Str.ofString "vnodes" from h) (by decide +kernel), fun h => absurd (show Str.ofString "hostname" = Str.ofString "weight" from h) (by decide +kernel)⟩
  · exact ⟨fun h => absurd (show Str.ofString "instance" = Str.ofString "nodename" from h) (by decide +kernel), fun h => absurd (show Str.ofString "instance" = Str.ofString "vnodes" from h) (by decide +kernel), fun h => absurd (show Str.ofString "instance" = Str.ofString "weight" from h) (by decide +kernel)⟩
  · exact ⟨fun _ => ⟨_, rfl⟩, fun h => absurd (show Str.ofString "nodename" = Str.ofString "vnodes" from h) (by decide +kernel), fun h => absurd (show Str.ofString "nodename" = Str.ofString "weight" from h) (by decide +kernel)⟩
  · exact ⟨fun h => absurd (show Str.ofString "port" = Str.ofString "nodename" from h) (by decide +kernel), fun h => absurd (show Str.ofString "port" = Str.ofString "vnodes" from h) (by decide +kernel), fun h => absurd (show Str.ofString "port" = Str.ofString "weight" from h) (by decide +kernel)⟩
  · exact ⟨fun h => absurd (show Str.ofString "vnodes" = Str.ofString "nodename" from h) (by decide +kernel), fun _ => ⟨_, rfl⟩, fun h => absurd (show Str.ofString "vnodes" = Str.ofString "weight" from h) (by decide +kernel)⟩
  · exact ⟨fun h => absurd (show Str.ofString "weight" = Str.ofString "nodename" from h) (by decide +kernel), fun h => absurd (show Str.ofString "weight" = Str.ofString "vnodes" from h) (by decide +kernel), fun _ => ⟨_, rfl⟩⟩
theorem perm_hr {Z F V P N : List Item} : ((Z ++ (F ++ V)) ++ (P ++ N)).Perm (F ++ (V ++ (P ++ (Z ++ N)))) := by
  simp only [List.append_assoc]
  refine (List.perm_append_comm_assoc Z F _).trans (List.Perm.append_left F ?_)
  refine (List.perm_append_comm_assoc Z V _).trans (List.Perm.append_left V ?_)
  exact List.perm_append_comm_assoc Z P _
/-- regenerate -/
theorem ring_regen (w : World) (C : Cx) (hB : Bs PP w (hK w.params) gl C) (wS : List Item) (seen : Addr) (tw : Cf → Int) (domW : Cf → Prop) (wa : Addr) (hw : WOk w C wa wS seen tw domW) (g0 : List (Addr × Cf)) (ha : Addr) (hIts : List Item) (h : Str → Int) (dom : Str → Prop) (hh : HOk w C ha hIts h dom) (r : Rg) (st : RS) (g : StOk st)
   (A : Around) (rest : List Item) (s : Shared) (Q E : Value → Shared → Prop) (hA : Rm A 8 80) (hr0 : ∀ p ∈ hIts, p ∈ rest) (hw0 : ∀ p ∈ wS, p ∈ rest) (hz : st.nl.length ≤ 400) (hz2 : st.m.dl.length + st.nl.length ≤ 1000) (hz3 : st.m.pl.length + st.nl.length ≤ 1000) (zg : g0.length + st.nl.length ≤ 10000)
   (hdw : ∀ p ∈ st.nl, domW p.2.2) (hE : ∀ nl', nlC nl' = (nlC st.nl).map (fun p => (p.1, wcf tw p.2)) → ElsOk dom nl' ∧ st.m.rl.length + ((elsOf nl').map El.cnt).sum < 64)
   (H : S C (rgIts w ha wa r st ++ (toldIts seen g0 ++ rest)) s)
   (hQ : ∀ nl' m' ka ns g' s', nlC nl' = (nlC st.nl).map (fun p => (p.1, wcf tw p.2)) → Lays h st.m (elsOf nl') m' → g'.map (·.2) = g0.map (·.2) ++ st.nl.map (·.2.2) → StOk ⟨m', nl', ka, ns⟩ → S C (rgIts w ha wa r ⟨m', nl', ka, ns⟩ ++ (toldIts seen g' ++ rest)) s' → Q .none s') : wpAny (model PP w) A (call (.ref 315) [.ref r.hr]) Q E s := by
  obtain ⟨hr, hrd, rt, rtd, dist, npts, nodes, rg, vn⟩ := r
  obtain ⟨m, nl, ka, ns⟩ := st
  dsimp only at *
  unfold rgIts at H
  dsimp only at H
  simp only [List.cons_append, List.append_assoc] at H
  refine wpAny_call ?_
  refine call_fnL H hB (hB.k H 315 _ rfl) rfl (codeRec_of (hB.k H) (by kernel_rfl)) rfl hA (BindsTo.of_eq rfl) (by kernel_rfl) (by kernel_rfl) (loc := [("self", some (.ref hr))]) (by kernel_rfl) rfl ?_
  intro L s A1 E1 hA1 H env
  repeat' walk1
  refine r_dict_of H (knd := sk PP w) (kvs := nlK nl) (ep := none) (by walk_at "mb") (by unfold nlK; rw [List.length_map]; omega) fun nd s H => ?_
  repeat' walk1
  have hT : ∀ {N T R : List Item} {X1 X2 X3 X4 X5 X6 X7 X8 X9 X10 X11 : Item}, (X1 :: X2 :: X3 :: X4 :: X5 :: X6 :: X7 :: X8 :: X9 :: X10 :: X11 :: (ptsIts m.pl ++ (N ++ (T ++ R)))).Perm (X1 :: X2 :: X3 :: X4 :: X5 :: X6 :: (N ++ (T ++ (X7 :: X8 :: X9 :: X10 :: X11 :: (ptsIts m.pl ++ R))))) := fun {N T R X1 X2 X3 X4 X5 X6 X7 X8 X9 X10 X11} =>
    List.Perm.append_left [X1, X2, X3, X4, X5, X6] (perm_nl2 (X := [X7, X8, X9, X10, X11]))
  have H : S C ((nd, DictI (sk PP w) (ndK (ndsOf nl)) none) :: fixC w hr hrd rt rtd dist ka npts nodes rg ha wa vn nl (nlIts w nl ++ (toldIts seen g0 ++ ((dist, DictI (sk PP w) m.dl none) :: (ka, ListI (ns.map vi)) :: (npts, DictI (sk PP w) (plK m.pl) none) :: (rg, DictI (ik PP w) m.rl none) :: (L, NsI [("self", some (.ref hr))]) :: (ptsIts m.pl ++ rest))))) s := by
    rw [ndK_of]
    exact (S.pick (ps := [(nd, _), (hr, _), (hrd, _), (rt, _), (rtd, _), (nodes, _), (dist, _), (ka, _), (npts, _), (rg, _), (L, _)]) H (by walk_at "pick") (by walk_at "sub")).perm hT
  have hnl : (ndsOf nl).length = nl.length := by unfold ndsOf; rw [List.length_map]
  refine conf_dict w C hB wS seen tw domW hr hrd rt rtd dist ka npts nodes rg ha wa hw vn nl (ndsOf nl) nd g0 (by rw [ndsOf_names]; exact g.nd) g.nd (by omega) (by omega) A1 _ s _ _ (hA1.le (by decide) (by decide)) (fun p hp => mem5 (List.mem_append_right _ (hw0 p hp))) (fun e he => ?_) (fun e he => ?_) H fun nl' b g' s hcs hg' H => ?_
  · obtain ⟨p, hp, rfl⟩ := List.mem_map.mp he
    exact ⟨List.mem_append_left _ (List.mem_map.mpr ⟨p, hp, rfl⟩), rowok_own _, by simp, fun q hq => by rw [← cf_keys p.2.2]; exact List.mem_map_of_mem hq⟩
  · obtain ⟨p, hp, rfl⟩ := List.mem_map.mp he
    dsimp only
    rw [confOf_own]
    exact hdw p hp
  have hg' : g'.map (·.2) = g0.map (·.2) ++ nl.map (·.2.2) := by
    rw [hg', ndsOf, List.map_map]
    refine congrArg (g0.map (·.2) ++ ·) (List.map_congr_left fun p _ => ?_)
    exact confOf_own vn p.1 p.2.1 p.2.2
  have hnc := hcs.regen' g.nd
  obtain ⟨hel, hsz⟩ := hE nl' hnc
  have hnd' := hcs.nodup g.nd
  have hlen' : nl'.length = nl.length := by rw [← nlC_len nl', hnc, List.length_map, nlC_len]
  clear hcs hE
  have H := H.perm hT.symm
  repeat' walk1
  rename_i nv
  have H : S C ((nodes, DictI (sk PP w) (nlK nl') none) :: (nv, ViewI "dict_items" nodes) :: (hr, InstI 390 hrd) :: (hrd, DictI (sk PP w) (hrA rt vn (.ref wa)) none) :: (rt, InstI 118 rtd) :: (rtd, DictI (sk PP w) (rtA dist ka npts nodes rg (.ref ha)) none) :: (dist, DictI (sk PP w) m.dl none) :: (ka, ListI (ns.map vi)) :: (npts, DictI (sk PP w) (plK m.pl) none) :: (rg, DictI (ik PP w) m.rl none) :: (ptsIts m.pl ++ (nlIts w nl' ++ (toldIts seen g' ++ rest)))) s :=
    S.pick (ps := [(nodes, _)]) H (by walk_at "pick") (by walk_at "sub")
  obtain ⟨n, H⟩ := H.named
  have H : S C (fixA w rt rtd dist ka npts nodes rg ha (ns.map vi) m ++ ([(nv, ViewI "dict_items" nodes), (nodes, DictI (sk PP w) (nlK nl') (some n))] ++ (ptsIts m.pl ++ ((hr, InstI 390 hrd) :: (hrd, DictI (sk PP w) (hrA rt vn (.ref wa)) none) :: (nlIts w nl' ++ (toldIts seen g' ++ rest)))))) s := by
    have H : S C ([(hr, InstI 390 hrd), (hrd, DictI (sk PP w) (hrA rt vn (.ref wa)) none), (rt, InstI 118 rtd), (rtd, DictI (sk PP w) (rtA dist ka npts nodes rg (.ref ha)) none), (dist, DictI (sk PP w) m.dl none), (ka, ListI (ns.map vi)), (npts, DictI (sk PP w) (plK m.pl) none), (rg, DictI (ik PP w) m.rl none), (nv, ViewI "dict_items" nodes), (nodes, DictI (sk PP w) (nlK nl') (some n))] ++ (ptsIts m.pl ++ (nlIts w nl' ++ (toldIts seen g' ++ rest)))) s :=
      S.pick H (by walk_at "pick") (by walk_at "sub")
    exact H.perm (perm_hr (Z := [(hr, _), (hrd, _)]) (F := [_, _, _, _, _, _]) (V := [_, _]))
  refine create_ring w C hB rt rtd dist ka npts nodes rg ha nv _ m hIts h dom hh (elsOf nl') _ _ (itok_items nl' n) g.g (fun e he => ?_) (H.sysm (by walk_at "mb")) (H.sysm (by walk_at "mb")) (H.sysm (by walk_at "mb")) (fun e he => ?_) ?_ ?_ hsz A1 _ s _ _ (hA1.le (by decide) (by decide)) (fun p hp => ?_) (fun e he => ?_) H fun ka' ns' m' s hl hpm hso H => ?_
  · obtain ⟨p, hp, rfl⟩ := List.mem_map.mp he
    exact (hel.b p hp).2.2.2.2.2
  · obtain ⟨p, hp, rfl⟩ := List.mem_map.mp he
    exact (hel.b p hp).2.2.2.2.1
  · unfold elsOf; rw [List.length_map, hlen']; exact hz2
  · unfold elsOf; rw [List.length_map, hlen']; exact hz3
  · exact .tail _ (.tail _ (List.mem_append_right _ (List.mem_append_right _ (hr0 p hp))))
  · obtain ⟨p, hp, rfl⟩ := List.mem_map.mp he
    obtain ⟨b1, b2, b3, b4, _⟩ := hel.b p hp
    exact ⟨p.2.2.kvs, .tail _ (.tail _ (List.mem_append_left _ (List.mem_map.mpr ⟨p, hp, rfl⟩))), cf_v _, cf_wt _, b1, b2, b3, b4⟩
  · repeat' walk1
    refine hQ nl' m' ka' ns' g' s hnc hl hg' ⟨hl.good g.g fun e he => ?_, hnd', hpm, hso⟩ ?_
    · obtain ⟨p, hp, rfl⟩ := List.mem_map.mp he
      obtain ⟨b1, b2, b3, b4, _⟩ := hel.b p hp
      have c1 : 1 * 1 ≤ p.2.2.v * p.2.2.wt := Int.mul_le_mul b1 b3 (by decide) (by omega)
      have c2 : p.2.2.v * p.2.2.wt ≤ 1000 * 1000 := Int.mul_le_mul b2 b4 (by omega) (by decide)
      show 1 ≤ (p.2.2.v * p.2.2.wt - 0).toNat ∧ (p.2.2.v * p.2.2.wt - 0).toNat ≤ 1000000
      omega
    · have H : S C ([(rt, InstI 118 rtd), (rtd, DictI (sk PP w) (rtA dist ka' npts nodes rg (.ref ha)) none), (dist, DictI (sk PP w) m'.dl none), (ka', ListI (ns'.map vi)), (npts, DictI (sk PP w) (plK m'.pl) none), (rg, DictI (ik PP w) m'.rl none)] ++ ([(nv, ViewI "dict_items" nodes), (nodes, DictI (sk PP w) (nlK nl') (some n))] ++ (ptsIts m'.pl ++ ([(hr, InstI 390 hrd), (hrd, DictI (sk PP w) (hrA rt vn (.ref wa)) none)] ++ (nlIts w nl' ++ (toldIts seen g' ++ rest)))))) s := by assumption
      have H := H.perm (perm_hr).symm
      simp only [List.cons_append, List.nil_append] at H
      have H : S C ((nodes, DictI (sk PP w) (nlK nl') (some n)) :: (hr, InstI 390 hrd) :: (hrd, DictI (sk PP w) (hrA rt vn (.ref wa)) none) :: (rt, InstI 118 rtd) :: (rtd, DictI (sk PP w) (rtA dist ka' npts nodes rg (.ref ha)) none) :: (dist, DictI (sk PP w) m'.dl none) :: (ka', ListI (ns'.map vi)) :: (npts, DictI (sk PP w) (plK m'.pl) none) :: (rg, DictI (ik PP w) m'.rl none) :: (ptsIts m'.pl ++ (nlIts w nl' ++ (toldIts seen g' ++ rest)))) s :=
        S.pick (ps := [(nodes, _)]) H (by walk_at "pick") (by walk_at "sub")
      have H := H.unnamed
      unfold rgIts
      simp only [List.cons_append, List.append_assoc]
      exact S.pick (ps := [(hr, _), (hrd, _), (rt, _), (rtd, _), (dist, _), (ka', _), (npts, _), (nodes, _), (rg, _)]) H (by walk_at "pick") (by walk_at "sub")

end Mc

namespace Mc
/-- the ground on which the law's call stands -/
theorem bs_of {w : World} {s₁ : Shared} {mg mb : Str → Option Value} {loose : List Str} {mean : ExcName → Option Value} {p : Program} (KX : (hK w.params).In s₁.heap) (T : Top p loose mean mg mb s₁.heap) :
    Bs PP w (hK w.params) gl ⟨s₁.heap, [89, 403], s₁.os⟩ where
  X := KX
  tk := by
    intro a ha
    rcases List.mem_cons.mp ha with rfl | ha
    · kernel_rfl
    rcases List.mem_cons.mp ha with rfl | ha
    · kernel_rfl
    cases ha
  names := by
    refine ⟨mg, mb, T.g, T.b, fun q hq => ?_⟩
    have hb : ∀ (x : Str) (v : Value), nsIn (hK w.params) mainGlobals x = some none → x ≠ "__name__" → bootBuiltins x = some v → mg x = some v ∨ (mg x = none ∧ mb x = some v) := fun x v h1 h2 h3 =>
      .inr ⟨PySem.W.mg_none_of KX T.g h1, (T.builtins x h2).trans h3⟩
    have hg : ∀ (x : Str) (v : Value), nsIn (hK w.params) mainGlobals x = some (some v) → mg x = some v ∨ (mg x = none ∧ mb x = some v) := fun x v h1 => .inl (mg_of KX T.g h1)
    repeat (rcases List.mem_cons.mp hq with rfl | hq; first | exact hg _ _ (by kernel_rfl!) | exact hb _ _ (by kernel_rfl!) (by decide +kernel) (by decide +kernel))
    cases hq
  lim := T.nolimit
  dig := T.nodigits
  lo := by
    intro a ha
    rcases List.mem_cons.mp ha with rfl | ha
    · decide
    rcases List.mem_cons.mp ha with rfl | ha
    · decide
    cases ha
theorem s_of {s₁ : Shared} {mg mb : Str → Option Value} {loose : List Str} {mean : ExcName → Option Value} {p : Program} (T : Top p loose mean mg mb s₁.heap) (hT8 : ∀ P ∈ ([89, 403] : List Addr), s₁.heap.get? P = some (tabObj #[])) (hg : s₁.gens = #[]) :
    S ⟨s₁.heap, [89, 403], s₁.os⟩ [(89, TabI #[]), (403, TabI #[])] s₁ where
  keep := fun _ _ h _ => h
  own := by
    intro q hq
    rcases List.mem_cons.mp hq with rfl | hq
    · exact ⟨_, hT8 89 (.head _), rfl⟩
    rcases List.mem_cons.mp hq with rfl | hq
    · exact ⟨_, hT8 403 (.tail _ (.head _)), rfl⟩
    cases hq
  new := by
    intro q hq
    rcases List.mem_cons.mp hq with rfl | hq
    · exact .inr (.head _)
    rcases List.mem_cons.mp hq with rfl | hq
    · exact .inr (.tail _ (.head _))
    cases hq
  nd := by simp
  tbs := fun a ha => ⟨_, hT8 a ha⟩
  gens := hg
  os := rfl
  big := by
    obtain ⟨o, es, ep, ho, _⟩ := T.g
    exact ⟨3, o, by decide, ho, by show ¬ ((3:Nat) ∈ [89, 403]); decide⟩
  n1 := by decide

end Mc

namespace Mc
/-- the last def of a module -/
noncomputable def lastB : List Stmt → List Stmt
  | [] => []
  | [.FunctionDef _ _ b _ _ _ _ _ _ _] => b
  | _ :: r => lastB r
/-- the law's inner def -/
noncomputable def choOf : Option Stmt := (lastB PP.main.body)[5]?
noncomputable def toldOf : Option Stmt := (lastB PP.main.body)[6]?
noncomputable def chp (key : Str) (i : Nat) : Int := ((key.cps[i]?).getD 0 : Nat)
noncomputable def choH (F : Int) (key : Str) : Int := 2 * (((chp key 0 - 97) * 9 + chp key 2 - 47) * F % 101)
noncomputable def choDom (key : Str) : Prop := ∃ a b c r, key.cps.toList = a :: b :: c :: r ∧ a < 200 ∧ c < 200
noncomputable abbrev choIts (ha cc c' : Addr) (F : Int) (fd : FuncData) : List Item := [(ha, FnI fd), (c', CodeI fd.qualname), (cc, CellI (some (.int F 0)))]
theorem item0 (a b c : Nat) (r : List Nat) : (Txt.item { cps := { toList := a :: b :: c :: r } } 0).cps.getD 0 0 = a := by
  simp [Txt.item, Txt.charAt, seqIndex?, Str.length]
  rw [if_pos (by omega)]
  simp
theorem item2 (a b c : Nat) (r : List Nat) : (Txt.item { cps := { toList := a :: b :: c :: r } } 2).cps.getD 0 0 = c := by
  simp [Txt.item, Txt.charAt, seqIndex?, Str.length]
  try (rw [if_pos (by omega)])
  try simp
theorem cho_str (w : World) (C : Cx) (hB : Bs PP w (hK w.params) gl C) (ha cc c' : Addr) (F : Int) (name qual : Str) (params : Arguments) (body : List Stmt) (ds : List Expr) (rt : Option Expr) (tp : List TypeParam) (scope : Scope) (ts : Option Scope) (bd : Str) (pos : Pos) (doc pm ctv : Value)
    (hF0 : 0 ≤ F) (hF1 : F ≤ 100) (hc : choOf = some (.FunctionDef name params body ds rt tp scope ts bd pos)) :
    HOk w C ha (choIts ha cc c' F (fnX name qual params body scope [("factor", cc)] .none .none doc pm none (.ref c') ctv)) (choH F) choDom := by
  cases hc
  refine ⟨fun its s H hi => ?_, ?_⟩
  · obtain ⟨o, ho, hF⟩ := H.get (hi _ (.head _))
    cases hF
    exact ⟨_, _, _, _, ho⟩
  intro A its s Q E key t hd hA H hi hQ
  have i1 := hi _ (.head _)
  have i2 := hi _ (.tail _ (.head _))
  have i3 := hi _ (.tail _ (.tail _ (.head _)))
  obtain ⟨o, ho, hF⟩ := H.get i1
  cases hF
  refine wpAny_call ?_
  refine call_fnL H hB ho rfl (H.codeRec i2) rfl hA (BindsTo.of_eq rfl) (by kernel_rfl) (by kernel_rfl) (loc := [("key", some (.str key 0))]) (by kernel_rfl) rfl ?_
  intro L s A1 E1 hA1 H env
  obtain ⟨a, b, c, r, hk, ka, kc⟩ := hd
  obtain ⟨cps⟩ := key
  obtain ⟨cps⟩ := cps
  cases hk
  have e0 : (Txt.item { cps := { toList := a :: b :: c :: r } } 0).cps.getD 0 0 = a := item0 a b c r
  have e2 : (Txt.item { cps := { toList := a :: b :: c :: r } } 2).cps.getD 0 0 = c := item2 a b c r
  repeat' walk1
  rw [e0, e2, Int.fmod_eq_emod_of_nonneg _ (by decide)]
  have H' := H.tail
  exact hQ _ _ (S.tkTo H' rfl rfl rfl)

end Mc

namespace Mc
theorem Up.same {a : Addr} {P : Obj → Prop} {l l' : List Item} (h : Up a P P l l') : l' = l := by
  induction h with
  | head => rfl
  | tail _ ih => rw [ih]
theorem take_law (w : World) (C : Cx) (hB : Bs PP w (hK w.params) gl C) (box : Addr) (xs : List Int) (hz : xs.length ≤ 1000)
   (A : Around) (its its' : List Item) (s : Shared) (Q E : Value → Shared → Prop) (hA : Rm A 3 20) (H : S C its s) (hU : Up box (ListI (xs.map vi)) (ListI (xs.tail.map vi)) its its')
   (hQ : ∀ t' s', S C its' s' → Q (.int (xs.headD 0) t') s') : wpAny (model PP w) A (call (.ref 401) [.ref box]) Q E s := by
  refine wpAny_call ?_
  refine call_fnL H hB (hB.k H 401 _ rfl) rfl (codeRec_of (hB.k H) (by kernel_rfl)) rfl hA (BindsTo.of_eq rfl) (by kernel_rfl) (by kernel_rfl) (loc := [("box", some (.ref box))]) (by kernel_rfl) rfl ?_
  intro L s A1 E1 hA1 H env
  have hm := hU.mem
  cases xs with
  | nil =>
    repeat' walk1
    refine hQ _ _ ?_
    have H' := H.tail
    have e : its' = its := Up.same hU
    subst e
    exact S.tkTo H' rfl rfl rfl
  | cons x xs =>
    have hz' : xs.length ≤ 999 := by simpa using hz
    have hne : ¬ ((((x :: xs).map vi).length : Nat) : Int) = 0 := by simp; omega
    repeat' walk1
    · exact absurd (by assumption) hne
    refine r_pop0 (X := vi x) (vs := xs.map vi) (its' := (L, NsI [("box", some (.ref box))]) :: its') (by walk_at "st") (Up.tail hU) (by simp; omega) fun s H => ?_
    refine Ret.int fun t => ?_
    exact hQ _ _ H.tail

end Mc

namespace Mc
/-- what the def tells by the law's table -/
noncomputable def tabAt (t : List Int) (c : Cf) : Int := match c.port with
  | .int p _ => (t[((chp c.nn 0 + p + c.v) % 3).toNat]?).getD 0
  | _ => 0
noncomputable def domW (c : Cf) : Prop := (∃ ch, c.nn.cps.toList = [ch]) ∧ ∃ p, c.port = vi p
noncomputable abbrev wsOf (wa c' seen tb sc tc : Addr) (t : List Int) (fd : FuncData) : List Item := [(wa, FnI fd), (c', CodeI fd.qualname), (sc, CellI (some (.ref seen))), (tc, CellI (some (.ref tb))), (tb, ListI (t.map vi))]
theorem ek6 {us : List (Str × Value)} {c : Cf} (h : us.map ek = c.kvs) : ∃ u1 u2 u3 u4 u5 u6, us = [(("hostname" : Str), u1), ("instance", u2), ("nodename", u3), ("port", u4), ("vnodes", u5), ("weight", u6)] ∧ er u1 = c.host ∧ er u2 = c.inst ∧ er u3 = vs c.nn ∧ er u4 = c.port ∧ er u5 = vi c.v ∧ er u6 = vi c.wt := by
  obtain ⟨p1, us, rfl, e1, h⟩ := List.map_eq_cons_iff.mp h
  obtain ⟨p2, us, rfl, e2, h⟩ := List.map_eq_cons_iff.mp h
  obtain ⟨p3, us, rfl, e3, h⟩ := List.map_eq_cons_iff.mp h
  obtain ⟨p4, us, rfl, e4, h⟩ := List.map_eq_cons_iff.mp h
  obtain ⟨p5, us, rfl, e5, h⟩ := List.map_eq_cons_iff.mp h
  obtain ⟨p6, us, rfl, e6, h⟩ := List.map_eq_cons_iff.mp h
  obtain rfl := List.map_eq_nil_iff.mp h
  have f : ∀ (p : Str × Value) (k : Str) (v : Value), ek p = (k, v) → p = (k, p.2) ∧ er p.2 = v := fun p k v e => ⟨Prod.ext (show p.1 = k from (congrArg Prod.fst e : (ek p).1 = k)) rfl, (congrArg Prod.snd e : (ek p).2 = v)⟩
  obtain ⟨g1, h1⟩ := f _ _ _ e1
  obtain ⟨g2, h2⟩ := f _ _ _ e2
  obtain ⟨g3, h3⟩ := f _ _ _ e3
  obtain ⟨g4, h4⟩ := f _ _ _ e4
  obtain ⟨g5, h5⟩ := f _ _ _ e5
  obtain ⟨g6, h6⟩ := f _ _ _ e6
  refine ⟨_, _, _, _, _, _, ?_, h1, h2, h3, h4, h5, h6⟩
  rw [g1, g2, g3, g4, g5, g6]
theorem told_ok (w : World) (C : Cx) (hB : Bs PP w (hK w.params) gl C) (wa c' seen tb sc tc : Addr) (t : List Int) (ht : t.length = 3) (name qual : Str) (params : Arguments) (body : List Stmt) (ds : List Expr) (rt : Option Expr) (tp : List TypeParam) (scope : Scope) (ts : Option Scope) (bd : Str) (pos : Pos) (doc pm ctv : Value)
    (hc : toldOf = some (.FunctionDef name params body ds rt tp scope ts bd pos)) :
    WOk w C wa (wsOf wa c' seen tb sc tc t (fnX name qual params body scope [("table", tc), ("seen", sc)] .none .none doc pm none (.ref c') ctv)) seen (tabAt t) domW := by
  cases hc
  refine ⟨⟨_, .head _⟩, fun its s H hi => ?_, ?_⟩
  · obtain ⟨o, ho, hF⟩ := H.get (hi _ (.head _))
    cases hF
    exact ⟨_, _, _, _, ho⟩
  intro A its s Q E g c us hd hus hgl hA hi H hQ
  obtain ⟨chost, cinst, ⟨⟨cnn⟩⟩, cport, cv, cwt⟩ := c
  obtain ⟨⟨ch, hch⟩, p, hp⟩ := hd
  dsimp only at hch hp
  subst hch hp
  have i1 := hi _ (.head _)
  have i2 := hi _ (.tail _ (.head _))
  have i3 := hi _ (.tail _ (.tail _ (.head _)))
  have i4 := hi _ (.tail _ (.tail _ (.tail _ (.head _))))
  have i5 := hi _ (.tail _ (.tail _ (.tail _ (.tail _ (.head _)))))
  obtain ⟨u1, u2, u3, u4, u5, u6, rfl, e1, e2, e3, e4, e5, e6⟩ := ek6 hus
  obtain ⟨o, ho, hF⟩ := H.get (List.mem_append_right _ i1)
  cases hF
  refine wpAny_call ?_
  refine call_fnL H hB ho rfl (H.codeRec (List.mem_append_right _ i2)) rfl hA (BindsTo.of_eq rfl) (by kernel_rfl) (by kernel_rfl) (loc := [("hostname", some (er u1)), ("instance", some (er u2)), ("nodename", some (er u3)), ("port", some (er u4)), ("vnodes", some (er u5)), ("weight", some (er u6))]) (by kernel_rfl) rfl ?_
  intro L s A1 E1 hA1 H env
  rw [e1, e2, e3, e4, e5, e6] at H
  obtain ⟨Z, hZ⟩ : ∃ Z, Z = (g.map fun p => ((p.1, TupI [vs p.2.nn, p.2.host, p.2.inst, p.2.port, vi p.2.v, vi p.2.wt]) : Item)) ++ its := ⟨_, rfl⟩
  have H : S C ((L, NsI [("hostname", some chost), ("instance", some cinst), ("nodename", some (vs ⟨#[ch]⟩)), ("port", some (vi p)), ("vnodes", some (vi cv)), ("weight", some (vi cwt))]) :: (seen, ListI (g.map fun p => .ref p.1)) :: Z) s := by rw [hZ]; exact H
  have i3 : (sc, CellI (some (.ref seen))) ∈ Z := by rw [hZ]; exact List.mem_append_right _ i3
  have i4 : (tc, CellI (some (.ref tb))) ∈ Z := by rw [hZ]; exact List.mem_append_right _ i4
  have i5 : (tb, ListI (t.map vi)) ∈ Z := by rw [hZ]; exact List.mem_append_right _ i5
  have he1 : er chost = chost := by have := er_er u1; rw [e1] at this; exact this
  have he2 : er cinst = cinst := by have := er_er u2; rw [e2] at this; exact this
  have hz : (g.map fun p => Value.ref p.1).length ≤ 1000000 := by rw [List.length_map]; omega
  repeat' walk1
  have f0 : ∀ z : Int, 0 ≤ z.fmod 3 := fun z => by rw [Int.fmod_eq_emod_of_nonneg _ (by decide)]; omega
  have f1 : ∀ z : Int, z.fmod 3 < 9223372036854775808 := fun z => by rw [Int.fmod_eq_emod_of_nonneg _ (by decide)]; omega
  have f2 : ∀ z : Int, (t.map vi)[(z.fmod 3).toNat]? = some (vi ((t[(z % 3).toNat]?).getD 0)) := fun z => by
    rw [Int.fmod_eq_emod_of_nonneg _ (by decide), List.getElem?_map]
    have hl : (z % 3).toNat < t.length := by omega
    rw [List.getElem?_eq_getElem hl]; rfl
  refine sub_list (X := vi ((t[(((ch : Int) + p + cv) % 3).toNat]?).getD 0)) (by walk_at "st") (by walk_at "mb") (f0 _) (f1 _) (f2 _) (by walk_at "wr") ?_
  refine Ret.int fun t' => ?_
  rename_i tp _ _ _
  rw [he1, he2] at H
  refine hQ t' tp _ ?_
  have e9 : toldIts seen (g ++ [(tp, ⟨chost, cinst, ⟨⟨[ch]⟩⟩, vi p, cv, cwt⟩)]) = (seen, ListI (g.map (fun p => .ref p.1) ++ [.ref tp])) :: ((g.map fun p => ((p.1, TupI [vs p.2.nn, p.2.host, p.2.inst, p.2.port, vi p.2.v, vi p.2.wt]) : Item)) ++ [(tp, TupI [vs ⟨⟨[ch]⟩⟩, chost, cinst, vi p, vi cv, vi cwt])]) := by
    unfold toldIts; rw [List.map_append, List.map_append]; rfl
  rw [e9]
  rw [hZ] at H
  refine S.tkTo ?_ rfl rfl rfl (s := s)
  refine (S.mono H (its' := (tp, TupI [vs ⟨⟨[ch]⟩⟩, chost, cinst, vi p, vi cv, vi cwt]) :: (seen, ListI (g.map (fun p => .ref p.1) ++ [.ref tp])) :: ((g.map fun p => ((p.1, TupI [vs p.2.nn, p.2.host, p.2.inst, p.2.port, vi p.2.v, vi p.2.wt]) : Item)) ++ its)) (List.Sublist.cons_cons _ (List.sublist_cons_self _ _))).perm ?_
  refine (List.Perm.swap _ _ _).trans (List.Perm.cons _ ?_)
  exact List.perm_middle.symm.trans (List.Perm.of_eq (List.append_assoc _ [_] its).symm)

end Mc

namespace Mc
theorem valueAt_stored_ne {α : Type} [DecidableEq α] {l : List (α × Value)} {k j : α} {v : Value} (h : j ≠ k) : valueAt (stored l k v) j = valueAt l j := by
  unfold stored
  split
  · unfold valueAt
    rw [List.find?_map]
    have : ((fun kv : α × Value => decide (kv.1 = j)) ∘ fun kv => if kv.1 = k then (kv.1, v) else kv) = fun kv => decide (kv.1 = j) := by
      funext p; simp only [Function.comp]; split <;> rfl
    rw [this]
    cases e : l.find? fun kv => decide (kv.1 = j) with
    | none => rfl
    | some p =>
      have e2 := List.find?_some e
      have : p.1 = j := of_decide_eq_true e2
      simp only [Option.map_some]
      rw [if_neg (by rw [this]; exact h)]
  · exact valueAt_app_ne h
theorem valueAt_without_self {α : Type} [DecidableEq α] {l : List (α × Value)} {k : α} : valueAt (without l k) k = none := valueAt_none fun h => (without_keys.mp h).2 rfl
theorem valueAt_dropP {n : Str} {rl : List (Int × Value)} {p q : Int} : valueAt (dropP n rl p) q = if q = p ∧ valueAt rl q = some (vs n) then none else valueAt rl q := by
  unfold dropP
  by_cases h : valueAt rl p = some (vs n)
  · rw [if_pos h]
    by_cases e : q = p
    · subst e; rw [if_pos ⟨rfl, h⟩]; exact valueAt_without_self
    · rw [if_neg fun z => e z.1]; exact valueAt_without e
  · rw [if_neg h, if_neg]
    rintro ⟨rfl, h2⟩; exact h h2
theorem valueAt_dropPs {n : Str} {q : Int} : ∀ {ps : List Int} {rl : List (Int × Value)}, valueAt (ps.foldl (dropP n) rl) q = if q ∈ ps ∧ valueAt rl q = some (vs n) then none else valueAt rl q
  | [], rl => by simp
  | p :: ps, rl => by
    rw [List.foldl_cons, valueAt_dropPs, valueAt_dropP]
    by_cases h1 : q = p <;> by_cases h2 : valueAt rl q = some (vs n) <;> by_cases h3 : q ∈ ps <;> simp [h1, h2, h3]
    all_goals (subst h1; simp [h2])
theorem valueAt_layR {h : Str → Int} {n : Str} {q : Int} {rl : List (Int × Value)} : ∀ {c : Nat}, valueAt (layR h n c rl) q = if q ∈ (List.range c).map (fun k => h (keyN n k)) then some (vs n) else valueAt rl q
  | 0 => by simp [layR]
  | c + 1 => by
    rw [layR_step]
    by_cases e : q = h (keyN n c)
    · subst e
      rw [valueAt_stored, if_pos]
      rw [List.range_succ, List.map_append]; simp
    · rw [valueAt_stored_ne e, valueAt_layR, List.range_succ, List.map_append]
      simp only [List.mem_append, List.map_cons, List.map_nil, List.mem_singleton, e, or_false]
/-- which nodes have laid their points, with how many -/
structure MR (h : Str → Int) (m : MS) (P : Str → Nat → Prop) : Prop where
  pt : ∀ p X, valueAt m.rl p = some X ↔ ∃ n c k, P n c ∧ k < c ∧ p = h (keyN n k) ∧ X = vs n
  pls : ∀ n, n ∈ m.pl.map (·.1) ↔ ∃ c, P n c
  plo : ∀ n c, P n c → olds m.pl n = (List.range c).map fun k => h (keyN n k)
/-- the hash keeps the points of nodes apart -/
noncomputable def Apart (h : Str → Int) (D : Str → Nat → Prop) : Prop := ∀ n k n' k', D n k → D n' k' → h (keyN n k) = h (keyN n' k') → n = n' ∧ k = k'
noncomputable def addP (P : Str → Nat → Prop) (name : Str) (cnt : Nat) (n : Str) (c : Nat) : Prop := (n = name ∧ c = cnt) ∨ (n ≠ name ∧ P n c)
noncomputable def rmP (P : Str → Nat → Prop) (name : Str) (n : Str) (c : Nat) : Prop := n ≠ name ∧ P n c
theorem olds_other {pl : Pl} {name n : Str} (hne : n ≠ name) : olds (plW pl name) n = olds pl n := by
  unfold olds plW
  rw [List.find?_filter]
  congr 3
  funext p
  by_cases q : p.1 = n
  · simp [q, hne]
  · simp [q]
theorem olds_app {pl : Pl} {name n : Str} {a : Addr} {ps : List Int} (hne : n ≠ name) : olds (pl ++ [(name, a, ps)]) n = olds pl n := by
  unfold olds
  rw [List.find?_append]
  have : (List.find? (fun p : Str × Addr × List Int => decide (p.1 = n)) [(name, a, ps)]) = none := by simp [Ne.symm hne]
  rw [this, Option.or_none]
theorem olds_last {pl : Pl} {name : Str} {a : Addr} {ps : List Int} (h : name ∉ pl.map (·.1)) : olds (pl ++ [(name, a, ps)]) name = ps := by
  unfold olds
  rw [List.find?_append, List.find?_eq_none.mpr fun p hp e => h (by rw [← of_decide_eq_true e]; exact List.mem_map_of_mem (f := (·.1)) hp)]
  simp
theorem plW_keys {pl : Pl} {name n : Str} : n ∈ (plW pl name).map (·.1) ↔ n ∈ pl.map (·.1) ∧ n ≠ name := by
  have := without_keys (l := plK pl) (k := name) (j := n)
  rw [plK_without, plK_keys, plK_keys] at this
  exact this
theorem MR.drop {h : Str → Int} {m : MS} {P : Str → Nat → Prop} {D : Str → Nat → Prop} (r : MR h m P) (hD : Apart h D) (hPD : ∀ n c k, P n c → k < c → D n k) (name : Str) (p : Int) (X : Value) :
    valueAt ((olds m.pl name).foldl (dropP name) m.rl) p = some X ↔ ∃ n c k, rmP P name n c ∧ k < c ∧ p = h (keyN n k) ∧ X = vs n := by
  rw [valueAt_dropPs]
  constructor
  · intro e
    split at e
    · cases e
    · rename_i hn
      obtain ⟨n, c, k, h1, h2, h3, h4⟩ := (r.pt p X).mp e
      refine ⟨n, c, k, ⟨fun q => hn ⟨?_, ?_⟩, h1⟩, h2, h3, h4⟩
      · rw [← q, r.plo n c h1, h3]
        exact List.mem_map.mpr ⟨k, List.mem_range.mpr h2, rfl⟩
      · rw [e, h4, q]
  · rintro ⟨n, c, k, ⟨h0, h1⟩, h2, h3, h4⟩
    have e := (r.pt p X).mpr ⟨n, c, k, h1, h2, h3, h4⟩
    rw [if_neg, e]
    rintro ⟨_, q⟩
    rw [e, h4] at q
    simp [vs] at q
    exact h0 q
theorem MR.add {h : Str → Int} {m : MS} {P : Str → Nat → Prop} {D : Str → Nat → Prop} (r : MR h m P) (hD : Apart h D) (hPD : ∀ n c k, P n c → k < c → D n k) {name : Str} {cnt : Nat} (hn : ∀ k, k < cnt → D name k) (pa : Addr) : MR h (layF h name cnt pa m) (addP P name cnt) := by
  refine ⟨fun p X => ?_, fun n => ?_, fun n c' hc => ?_⟩
  · show valueAt (layR h name cnt _) p = some X ↔ _
    rw [valueAt_layR]
    constructor
    · intro e
      split at e
      · rename_i hm
        obtain ⟨k, hk, rfl⟩ := List.mem_map.mp hm
        cases e
        exact ⟨name, cnt, k, .inl ⟨rfl, rfl⟩, List.mem_range.mp hk, rfl, rfl⟩
      · obtain ⟨n, c', k, ⟨h0, h1⟩, h2, h3, h4⟩ := (r.drop hD hPD name p X).mp e
        exact ⟨n, c', k, .inr ⟨h0, h1⟩, h2, h3, h4⟩
    · rintro ⟨n, c', k, hp, h2, h3, h4⟩
      rcases hp with ⟨rfl, rfl⟩ | ⟨h0, h1⟩
      · rw [if_pos, h4]
        rw [h3]; exact List.mem_map.mpr ⟨k, List.mem_range.mpr h2, rfl⟩
      · rw [if_neg]
        · exact (r.drop hD hPD name p X).mpr ⟨n, c', k, ⟨h0, h1⟩, h2, h3, h4⟩
        · intro hm
          obtain ⟨k', hk, e⟩ := List.mem_map.mp hm
          exact h0 (hD _ _ _ _ (hPD n c' k h1 h2) (hn k' (List.mem_range.mp hk)) (h3.symm.trans e.symm)).1
  · show n ∈ (plW m.pl name ++ _).map _ ↔ _
    rw [List.map_append, List.mem_append, plW_keys, r.pls]
    constructor
    · rintro (⟨⟨c', h1⟩, h2⟩ | h1)
      · exact ⟨c', .inr ⟨h2, h1⟩⟩
      · simp at h1; exact ⟨cnt, .inl ⟨h1, rfl⟩⟩
    · rintro ⟨c', ⟨h1, _⟩ | ⟨h1, h2⟩⟩
      · exact .inr (by simp [h1])
      · exact .inl ⟨⟨c', h2⟩, h1⟩
  · show olds (plW m.pl name ++ _) n = _
    rcases hc with ⟨rfl, rfl⟩ | ⟨h1, h2⟩
    · exact olds_last plW_not
    · rw [olds_app h1, olds_other h1]; exact r.plo n c' h2
/-- the nodes of a list, in order -/
noncomputable def elP (els : List El) (n : Str) (c : Nat) : Prop := ∃ e ∈ els, e.name = n ∧ e.cnt = c
theorem sorted_eq : ∀ {xs ys : List Int}, xs.Perm ys → xs.Pairwise (· ≤ ·) → ys.Pairwise (· ≤ ·) → xs = ys
  | [], ys, h, _, _ => (List.nil_perm.mp h).symm
  | x :: xs, [], h, _, _ => absurd h.length_eq (by simp)
  | x :: xs, y :: ys, h, h1, h2 => by
    rw [List.pairwise_cons] at h1 h2
    have e : x = y := by
      have m1 : x ∈ y :: ys := h.mem_iff.mp (.head _)
      have m2 : y ∈ x :: xs := h.mem_iff.mpr (.head _)
      rcases List.mem_cons.mp m1 with q | q
      · exact q
      rcases List.mem_cons.mp m2 with r | r
      · exact r.symm
      exact Int.le_antisymm (h1.1 _ r) (h2.1 _ q)
    subst e
    rw [sorted_eq (List.Perm.cons_inv h) h1.2 h2.2]

end Mc

namespace Mc
noncomputable def lets : List Str := ["a", "b", "c", "d", "e", "f"]
noncomputable def DD (n : Str) (k : Nat) : Prop := n ∈ lets ∧ k < 9
theorem keyN_cps : ∀ i, i < 6 → ∀ k, k < 9 → (keyN (lets.getD i "") k).cps.toList = [97 + i, 45, 48 + k] := by decide +kernel
theorem inv101 : ∀ F, F < 101 → 1 ≤ F → ∃ G, G < 101 ∧ F * G % 101 = 1 := by decide +kernel
theorem mul_inj101 {F a b : Int} (h1 : 1 ≤ F) (h2 : F ≤ 100) (ha : 0 ≤ a ∧ a < 101) (hb : 0 ≤ b ∧ b < 101) (h : a * F % 101 = b * F % 101) : a = b := by
  obtain ⟨G, hG, hq⟩ := inv101 F.toNat (by omega) (by omega)
  have hF : ((F.toNat : Nat) : Int) = F := Int.toNat_of_nonneg (by omega)
  have hFG : F * (G : Int) % 101 = 1 := by rw [← hF]; exact_mod_cast hq
  have key : ∀ x : Int, x * F * (G : Int) % 101 = x % 101 := fun x => by
    rw [Int.mul_assoc, Int.mul_emod, hFG, Int.mul_one, Int.emod_emod_of_dvd _ (Int.dvd_refl _)]
  have e : a * F * (G : Int) % 101 = b * F * (G : Int) % 101 := by rw [Int.mul_emod, h, ← Int.mul_emod]
  rw [key, key, Int.emod_eq_of_lt ha.1 ha.2, Int.emod_eq_of_lt hb.1 hb.2] at e
  exact e
theorem lets_at {n : Str} (h : n ∈ lets) : ∃ i, i < 6 ∧ n = lets.getD i "" := by
  obtain ⟨i, hi, e⟩ := List.mem_iff_getElem.mp h
  refine ⟨i, hi, ?_⟩
  rw [List.getD_eq_getElem?_getD, List.getElem?_eq_getElem hi, ← e]; rfl
theorem choH_at {F : Int} {i k : Nat} (hi : i < 6) (hk : k < 9) : choH F (keyN (lets.getD i "") k) = 2 * (((9 * i + k + 1 : Nat) : Int) * F % 101) := by
  have e := keyN_cps i hi k hk
  unfold choH chp
  generalize keyN (lets.getD i "") k = key at e
  obtain ⟨⟨l⟩⟩ := key
  have e : l = [97 + i, 45, 48 + k] := e
  subst e
  have e1 : ((((97 + i : Nat) : Int) - 97) * 9 + ((48 + k : Nat) : Int) - 47) = ((9 * i + k + 1 : Nat) : Int) := by omega
  rw [← e1]
  rfl
theorem cho_apart {F : Int} (h1 : 1 ≤ F) (h2 : F ≤ 100) : Apart (choH F) DD := by
  rintro n k n' k' ⟨hn, hk⟩ ⟨hn', hk'⟩ e
  obtain ⟨i, hi, rfl⟩ := lets_at hn
  obtain ⟨j, hj, rfl⟩ := lets_at hn'
  rw [choH_at hi hk, choH_at hj hk'] at e
  have := mul_inj101 h1 h2 (a := ((9 * i + k + 1 : Nat) : Int)) (b := ((9 * j + k' + 1 : Nat) : Int)) (by omega) (by omega) (by omega)
  have hij : i = j ∧ k = k' := by omega
  obtain ⟨rfl, rfl⟩ := hij
  exact ⟨rfl, rfl⟩
theorem cho_dom {n : Str} {k : Nat} (h : DD n k) : choDom (keyN n k) := by
  obtain ⟨i, hi, rfl⟩ := lets_at h.1
  exact ⟨_, _, _, [], keyN_cps i hi k h.2, by omega, by have := h.2; omega⟩

end Mc

namespace Mc
noncomputable abbrev frW (script box told rows turn kind number known told_row points : Option Value) : List (Str × Option Value) :=
  [("script", script), ("box", box), ("told", told), ("rows", rows), ("turn", turn), ("kind", kind), ("number", number), ("known", known), ("told_row", told_row), ("points", points)]
noncomputable abbrev clW (L : Addr) (due chosen ring name row fresh factor seen table : Option Value) : List Item := [(L + 9, CellI table), (L + 8, CellI seen), (L + 7, CellI factor), (L + 6, CellI fresh), (L + 5, CellI row), (L + 4, CellI name), (L + 3, CellI ring), (L + 2, CellI chosen), (L + 1, CellI due)]
/-- the law's call -/
noncomputable abbrev lenv (fa L : Addr) (nm : Str) (ps : Arguments) (body : List Stmt) (sc : Scope) (doc pm cd : Value) : Env := PySem.callEnvC { docDef nm ps body sc pm cd doc with defaults := .none, kwdefaults := .none } L fa
theorem fmod_nn {a b : Int} (hb : 0 < b) : a.fmod b = a % b := Int.fmod_eq_emod_of_nonneg _ (Int.le_of_lt hb)
theorem take' {w : World} {C : Cx} (hB : Bs PP w (hK w.params) gl C) {box : Addr} {xs : List Int} {A : Around} {its its' : List Item} {s : Shared} {Q E : Value → Shared → Prop} (hA : Rm A 3 20) (H : S C its s) (hU : Up box (ListI (xs.map vi)) (ListI (xs.tail.map vi)) its its') (hz : xs.length ≤ 1000)
   (hQ : ∀ t' s', S C its' s' → Q (.int (xs.headD 0) t') s') : wpAny (model PP w) A (call (.ref 401) [.ref box]) Q E s := take_law w C hB box xs hz A its its' s Q E hA H hU hQ

end Mc

namespace Mc
/-- a row of the law -/
structure Ro where
  ad : Addr
  name : Str
  v : Int
  port : Int
  wt : Int
  host : Str
noncomputable abbrev Ro.vals (r : Ro) : List Value := [vs r.name, vi r.v, vi r.port, vi r.wt, vs r.host]
noncomputable abbrev Ro.cf (r : Ro) : Cf := ⟨vs r.host, .none, r.name, vi r.port, r.v, r.wt⟩
noncomputable def Ro.cnt (r : Ro) : Nat := (r.v * r.wt).toNat
noncomputable def roL (rows : List Ro) : List Value := rows.map fun r => .ref r.ad
noncomputable def roIts (rows : List Ro) : List Item := rows.map fun r => (r.ad, ListI r.vals)
noncomputable def abc : List Str := ["a", "b", "c"]
structure RoOk (r : Ro) : Prop where
  nm : r.name ∈ abc
  b : 1 ≤ r.v ∧ r.v ≤ 2 ∧ 0 ≤ r.port ∧ r.port ≤ 2 ∧ 1 ≤ r.wt ∧ r.wt ≤ 4
  ho : PySem.PyData.strOk r.host = true
noncomputable def roP (rows : List Ro) (n : Str) (c : Nat) : Prop := ∃ r ∈ rows, r.name = n ∧ r.cnt = c
noncomputable def roN (rows : List Ro) : List (Str × Cf) := rows.map fun r => (r.name, r.cf)
/-- the ring is the law's own -/
structure L5 (F : Int) (st : RS) (rows : List Ro) : Prop where
  ok : StOk st
  mr : MR (choH F) st.m (roP rows)
  nl : nlC st.nl = roN rows
  ro : ∀ r ∈ rows, RoOk r
noncomputable def setRo (rows : List Ro) (f : Ro) : List Ro := if (rows.map (·.name)).contains f.name then rows.map (fun r => if r.name = f.name then f else r) else rows ++ [f]
noncomputable def rmRo (rows : List Ro) (name : Str) : List Ro := rows.filter fun r => decide (r.name ≠ name)
theorem abc_lets {n : Str} (h : n ∈ abc) : n ∈ lets := by
  rcases List.mem_cons.mp h with rfl | h
  · decide +kernel
  rcases List.mem_cons.mp h with rfl | h
  · decide +kernel
  rw [List.mem_singleton] at h; subst h; decide +kernel
theorem RoOk.cnt {r : Ro} (h : RoOk r) : 1 ≤ r.cnt ∧ r.cnt ≤ 8 := by
  obtain ⟨_, ⟨h1, h2, _, _, h3, h4⟩, _⟩ := h
  have b1 : 1 * 1 ≤ r.v * r.wt := Int.mul_le_mul h1 h3 (by decide) (by omega)
  have b2 : r.v * r.wt ≤ 2 * 4 := Int.mul_le_mul h2 h4 (by omega) (by decide)
  unfold Ro.cnt
  omega
theorem RoOk.dd {r : Ro} (h : RoOk r) : ∀ k, k < r.cnt → DD r.name k := fun k hk => ⟨abc_lets h.nm, by have := h.cnt.2; omega⟩
theorem roN_names (rows : List Ro) : (roN rows).map (·.1) = rows.map (·.name) := by unfold roN; rw [List.map_map]; rfl
theorem nd_len {α : Type} [DecidableEq α] {l m : List α} (nd : l.Nodup) (h : ∀ a ∈ l, a ∈ m) : l.length ≤ m.length := by
  induction l generalizing m with
  | nil => exact Nat.zero_le _
  | cons a l ih =>
    rw [List.nodup_cons] at nd
    have hm := h a (.head _)
    have h2 : ∀ b ∈ l, b ∈ m.erase a := fun b hb => (List.mem_erase_of_ne fun (e : b = a) => nd.1 (by rw [← e]; exact hb)).mpr (h b (.tail _ hb))
    have := ih nd.2 h2
    rw [List.length_erase_of_mem hm] at this
    rw [List.length_cons]
    exact Nat.le_trans (Nat.succ_le_succ this) (Nat.le_of_eq (Nat.succ_pred_eq_of_pos (List.length_pos_of_mem hm)))
theorem nodup_inj {α β : Type} {f : α → β} : ∀ {l : List α}, (l.map f).Nodup → ∀ {a b}, a ∈ l → b ∈ l → f a = f b → a = b
  | [], _, _, _, h, _, _ => nomatch h
  | x :: l, nd, a, b, ha, hb, e => by
    rw [List.map_cons, List.nodup_cons] at nd
    rcases List.mem_cons.mp ha with h1 | h1
    · rcases List.mem_cons.mp hb with h2 | h2
      · rw [h1, h2]
      · exact absurd (by rw [← h1, e]; exact List.mem_map_of_mem h2) nd.1
    · rcases List.mem_cons.mp hb with h2 | h2
      · exact absurd (by rw [← h2, ← e]; exact List.mem_map_of_mem h1) nd.1
      · exact nodup_inj nd.2 h1 h2 e
section
variable {F : Int} {st : RS} {rows : List Ro}
theorem L5.names (l : L5 F st rows) : st.nl.map (·.1) = rows.map (·.name) := by rw [← nlC_keys, l.nl, roN_names]
theorem L5.nd (l : L5 F st rows) : (rows.map (·.name)).Nodup := by rw [← l.names]; exact l.ok.nd
theorem L5.len (l : L5 F st rows) : rows.length ≤ 3 := by
  have := nd_len (m := abc) l.nd fun n hn => by obtain ⟨r, hr, rfl⟩ := List.mem_map.mp hn; exact (l.ro r hr).nm
  rw [List.length_map] at this
  exact this
theorem L5.nl_len (l : L5 F st rows) : st.nl.length ≤ 3 := by
  have := congrArg List.length l.names
  rw [List.length_map, List.length_map] at this
  have := l.len
  omega
theorem L5.dd (l : L5 F st rows) : ∀ n c k, roP rows n c → k < c → DD n k := by
  rintro n c k ⟨r, hr, rfl, rfl⟩ hk
  exact (l.ro r hr).dd k hk
noncomputable def allPts (F : Int) : List Int := abc.flatMap fun n => (List.range 8).map fun k => choH F (keyN n k)
theorem allPts_len (F : Int) : (allPts F).length = 24 := rfl
theorem L5.rl_len (l : L5 F st rows) (nd : (st.m.rl.map (·.1)).Nodup) : st.m.rl.length ≤ 24 := by
  have := nd_len (m := allPts F) nd fun p hp => by
    obtain ⟨X, hX⟩ := Option.isSome_iff_exists.mp (valueAt_isSome.mpr hp)
    obtain ⟨n, c, k, ⟨r, hr, h1, h0⟩, h2, rfl, _⟩ := (l.mr.pt p X).mp hX
    have d := (l.ro r hr).cnt.2
    exact List.mem_flatMap.mpr ⟨n, by rw [← h1]; exact (l.ro r hr).nm, List.mem_map.mpr ⟨k, List.mem_range.mpr (by omega), rfl⟩⟩
  rw [List.length_map, allPts_len] at this
  exact this
theorem L5.pl_len (l : L5 F st rows) : st.m.pl.length ≤ 3 := by
  have := nd_len (m := abc) l.ok.g.nd fun n hn => by obtain ⟨c, r, hr, h1, _⟩ := (l.mr.pls n).mp hn; rw [← h1]; exact (l.ro r hr).nm
  rw [List.length_map] at this
  exact this
theorem L5.dl_len (l : L5 F st rows) (nd : (st.m.dl.map (·.1)).Nodup) : st.m.dl.length ≤ 3 := by
  have := nd_len (m := abc) nd fun n hn => by obtain ⟨c, r, hr, h1, _⟩ := (l.mr.pls n).mp (l.ok.g.sub n hn); rw [← h1]; exact (l.ro r hr).nm
  rw [List.length_map] at this
  exact this
theorem roP_rm (rows : List Ro) (name : Str) : roP (rmRo rows name) = rmP (roP rows) name := by
  funext n c
  apply propext
  constructor
  · rintro ⟨r, hr, rfl, rfl⟩
    obtain ⟨h1, h2⟩ := List.mem_filter.mp hr
    exact ⟨of_decide_eq_true h2, r, h1, rfl, rfl⟩
  · rintro ⟨h, r, hr, rfl, rfl⟩
    exact ⟨r, List.mem_filter.mpr ⟨hr, decide_eq_true h⟩, rfl, rfl⟩
theorem roN_rm (rows : List Ro) (name : Str) : roN (rmRo rows name) = (roN rows).filter fun p => decide (p.1 ≠ name) := by unfold roN rmRo; rw [List.filter_map]; rfl
/-- a node goes -/
theorem L5.rm (hF : 1 ≤ F ∧ F ≤ 100) (l : L5 F st rows) {name : Str} {ka : Addr} {ns : List Int} (ok : StOk ⟨rmF name st.m, nlW st.nl name, ka, ns⟩) : L5 F ⟨rmF name st.m, nlW st.nl name, ka, ns⟩ (rmRo rows name) := by
  refine ⟨ok, ?_, ?_, fun r hr => l.ro r (List.mem_filter.mp hr).1⟩
  · rw [roP_rm]
    refine ⟨fun p X => l.mr.drop (cho_apart hF.1 hF.2) l.dd name p X, fun n => ?_, fun n c' hc => ?_⟩
    · show n ∈ (plW st.m.pl name).map _ ↔ _
      rw [plW_keys, l.mr.pls]
      exact ⟨fun ⟨⟨c, h1⟩, h2⟩ => ⟨c, h2, h1⟩, fun ⟨c, h2, h1⟩ => ⟨⟨c, h1⟩, h2⟩⟩
    · show olds (plW st.m.pl name) n = _
      rw [olds_other hc.1]; exact l.mr.plo n c' hc.2
  · show nlC (nlW st.nl name) = _
    rw [nlC_nlW, l.nl, roN_rm]
theorem setRo_mem {rows : List Ro} {f r : Ro} (h : r ∈ setRo rows f) : r = f ∨ (r ∈ rows ∧ r.name ≠ f.name) := by
  unfold setRo at h
  split at h
  · obtain ⟨q, hq, e⟩ := List.mem_map.mp h
    by_cases z : q.name = f.name
    · rw [if_pos z] at e; exact .inl e.symm
    · rw [if_neg z] at e; subst e; exact .inr ⟨hq, z⟩
  · rename_i hc
    rcases List.mem_append.mp h with h | h
    · exact .inr ⟨h, fun e => hc (List.contains_iff_mem.mpr (List.mem_map.mpr ⟨r, h, e⟩))⟩
    · rw [List.mem_singleton] at h; exact .inl h
theorem mem_setRo {rows : List Ro} {f r : Ro} (h : r = f ∨ (r ∈ rows ∧ r.name ≠ f.name)) : r ∈ setRo rows f := by
  unfold setRo
  split
  · rename_i hc
    rcases h with rfl | ⟨h, hn⟩
    · obtain ⟨q, hq, e⟩ := List.mem_map.mp (List.contains_iff_mem.mp hc)
      exact List.mem_map.mpr ⟨q, hq, by rw [if_pos e]⟩
    · exact List.mem_map.mpr ⟨r, h, by rw [if_neg hn]⟩
  · rcases h with rfl | ⟨h, hn⟩
    · simp
    · exact List.mem_append_left _ h
theorem roP_set (rows : List Ro) (f : Ro) : roP (setRo rows f) = addP (roP rows) f.name f.cnt := by
  funext n c
  apply propext
  constructor
  · rintro ⟨r, hr, rfl, rfl⟩
    rcases setRo_mem hr with rfl | ⟨h1, h2⟩
    · exact .inl ⟨rfl, rfl⟩
    · exact .inr ⟨h2, r, h1, rfl, rfl⟩
  · rintro (⟨rfl, rfl⟩ | ⟨h, r, hr, rfl, rfl⟩)
    · exact ⟨f, mem_setRo (.inl rfl), rfl, rfl⟩
    · exact ⟨r, mem_setRo (.inr ⟨hr, h⟩), rfl, rfl⟩
theorem roN_set (rows : List Ro) (f : Ro) : roN (setRo rows f) = ncSet (roN rows) f.name f.cf := by
  unfold setRo ncSet
  rw [roN_names]
  split
  · unfold roN
    rw [List.map_map, List.map_map]
    refine List.map_congr_left fun p _ => ?_
    simp only [Function.comp]
    split
    · rename_i h; rw [h]
    · rfl
  · unfold roN; rw [List.map_append]; rfl
/-- a node comes -/
theorem L5.add1 (hF : 1 ≤ F ∧ F ≤ 100) (l : L5 F st rows) {f : Ro} (hf : RoOk f) {pa a ka : Addr} {ns : List Int} (ok : StOk ⟨layF (choH F) f.name f.cnt pa st.m, nlSet st.nl f.name a f.cf, ka, ns⟩) :
    L5 F ⟨layF (choH F) f.name f.cnt pa st.m, nlSet st.nl f.name a f.cf, ka, ns⟩ (setRo rows f) := by
  refine ⟨ok, ?_, ?_, fun r hr => ?_⟩
  · rw [roP_set]
    exact l.mr.add (cho_apart hF.1 hF.2) l.dd hf.dd pa
  · show nlC (nlSet st.nl f.name a f.cf) = _
    rw [nlC_set, l.nl, roN_set]
  · rcases setRo_mem hr with rfl | ⟨h, _⟩
    · exact hf
    · exact l.ro r h
/-- a node comes again, with the points that it has -/
theorem L5.add2 (l : L5 F st rows) {f : Ro} (hf : RoOk f) {a : Addr} {g : Ro} (hg : g ∈ rows) (hn : g.name = f.name) (hc : g.cnt = f.cnt) (ok : StOk ⟨st.m, nlSet st.nl f.name a f.cf, st.ka, st.ns⟩) :
    L5 F ⟨st.m, nlSet st.nl f.name a f.cf, st.ka, st.ns⟩ (setRo rows f) := by
  have hu : ∀ r ∈ rows, r.name = f.name → r = g := fun r hr e => by
    exact nodup_inj l.nd hr hg (e.trans hn.symm)
  refine ⟨ok, ?_, ?_, fun r hr => ?_⟩
  · rw [roP_set]
    have : addP (roP rows) f.name f.cnt = roP rows := by
      funext n c
      apply propext
      constructor
      · rintro (⟨rfl, rfl⟩ | ⟨_, h⟩)
        · exact ⟨g, hg, hn, hc⟩
        · exact h
      · rintro ⟨r, hr, rfl, rfl⟩
        by_cases e : r.name = f.name
        · exact .inl ⟨e, by rw [hu r hr e, hc]⟩
        · exact .inr ⟨e, r, hr, rfl, rfl⟩
    rw [this]; exact l.mr
  · show nlC (nlSet st.nl f.name a f.cf) = _
    rw [nlC_set, l.nl, roN_set]
  · rcases setRo_mem hr with rfl | ⟨h, _⟩
    · exact hf
    · exact l.ro r h
end
section
theorem MR.lays {h : Str → Int} {D : Str → Nat → Prop} (hD : Apart h D) {m0 : MS} {P : Str → Nat → Prop} (h0 : MR h m0 P) (hPD : ∀ n c k, P n c → k < c → D n k) {els : List El} {m : MS} (hl : Lays h m0 els m) (nd : (els.map (·.name)).Nodup) (hd : ∀ e ∈ els, ∀ k, k < e.cnt → D e.name k) :
    MR h m (fun n c => elP els n c ∨ (n ∉ els.map (·.name) ∧ P n c)) := by
  induction hl with
  | nil =>
    have e : (fun n c => elP [] n c ∨ (n ∉ ([] : List El).map (·.name) ∧ P n c)) = P := by
      funext n c; apply propext; simp [elP]
    rw [e]; exact h0
  | @snoc es e a m' hl ih =>
    rw [List.map_append, List.nodup_append] at nd
    have ih := ih nd.1 fun e he => hd e (List.mem_append_left _ he)
    have hn : ∀ k, k < e.cnt → D e.name k := hd e (by simp)
    have r := ih.add hD (fun n c k h hk => by
      rcases h with ⟨e', he', h1, h2⟩ | ⟨_, h⟩
      · subst h1 h2; exact hd e' (List.mem_append_left _ he') k hk
      · exact hPD n c k h hk) hn a
    have e1 : addP (fun n c => elP es n c ∨ (n ∉ es.map (·.name) ∧ P n c)) e.name e.cnt = fun n c => elP (es ++ [e]) n c ∨ (n ∉ (es ++ [e]).map (·.name) ∧ P n c) := by
      funext n c
      apply propext
      constructor
      · rintro (⟨rfl, rfl⟩ | ⟨hne, h⟩)
        · exact .inl ⟨e, by simp, rfl, rfl⟩
        · rcases h with ⟨e', he', h1⟩ | ⟨h1, h2⟩
          · exact .inl ⟨e', List.mem_append_left _ he', h1⟩
          · refine .inr ⟨fun q => ?_, h2⟩
            rw [List.map_append, List.mem_append] at q
            rcases q with q | q
            · exact h1 q
            · simp at q; exact hne q
      · rintro (⟨e', he', rfl, rfl⟩ | ⟨h1, h2⟩)
        · rcases List.mem_append.mp he' with he' | he'
          · exact .inr ⟨fun q => nd.2.2 _ (List.mem_map_of_mem (f := (·.name)) he') _ (.head _) q, .inl ⟨e', he', rfl, rfl⟩⟩
          · rw [List.mem_singleton] at he'; subst he'; exact .inl ⟨rfl, rfl⟩
        · rw [List.map_append, List.mem_append, not_or] at h1
          exact .inr ⟨fun q => h1.2 (by simp [q]), .inr ⟨h1.1, h2⟩⟩
    rw [← e1]
    exact r
/-- the weights are told anew -/
noncomputable def newW (t : List Int) (r : Ro) : Ro := { r with wt := tabAt t r.cf }
theorem els_of {nl : Nl} {rows : List Ro} (h : nlC nl = roN rows) : (elsOf nl).map (fun e => (e.name, e.v, e.wt)) = rows.map fun r => (r.name, r.v, r.wt) := by
  have : (elsOf nl).map (fun e => (e.name, e.v, e.wt)) = (nlC nl).map fun p => (p.1, p.2.v, p.2.wt) := by
    unfold elsOf nlC; rw [List.map_map, List.map_map]; rfl
  rw [this, h, roN, List.map_map]; rfl
theorem els_names {nl : Nl} {rows : List Ro} (h : nlC nl = roN rows) : (elsOf nl).map (·.name) = rows.map (·.name) := by
  have := congrArg (List.map (·.1)) (els_of h)
  rw [List.map_map, List.map_map] at this
  exact this
theorem els_cnts {nl : Nl} {rows : List Ro} (h : nlC nl = roN rows) : (elsOf nl).map El.cnt = rows.map Ro.cnt := by
  have := congrArg (List.map fun p : Str × Int × Int => (p.2.1 * p.2.2).toNat) (els_of h)
  rw [List.map_map, List.map_map] at this
  refine (List.map_congr_left fun e _ => ?_).trans this
  show (e.v * e.wt - 0).toNat = (e.v * e.wt).toNat
  rw [Int.sub_zero]
theorem els_mem {nl : Nl} {rows : List Ro} (h : nlC nl = roN rows) {e : El} (he : e ∈ elsOf nl) : ∃ r ∈ rows, r.name = e.name ∧ r.cnt = e.cnt := by
  have := List.mem_map_of_mem (f := fun e : El => (e.name, e.v, e.wt)) he
  rw [els_of h] at this
  obtain ⟨r, hr, q⟩ := List.mem_map.mp this
  injection q with q1 q2
  injection q2 with q2 q3
  refine ⟨r, hr, q1, ?_⟩
  show (r.v * r.wt).toNat = (e.v * e.wt - 0).toNat
  rw [q2, q3, Int.sub_zero]
theorem elP_ro {nl : Nl} {rows : List Ro} (h : nlC nl = roN rows) : elP (elsOf nl) = roP rows := by
  funext n c
  apply propext
  constructor
  · rintro ⟨e, he, rfl, rfl⟩
    obtain ⟨r, hr, h1, h2⟩ := els_mem h he
    exact ⟨r, hr, h1, h2⟩
  · rintro ⟨r, hr, rfl, rfl⟩
    have := List.mem_map_of_mem (f := fun r : Ro => (r.name, r.v, r.wt)) hr
    rw [← els_of h] at this
    obtain ⟨e, he, q⟩ := List.mem_map.mp this
    injection q with q1 q2
    injection q2 with q2 q3
    refine ⟨e, he, q1, ?_⟩
    show (e.v * e.wt - 0).toNat = (r.v * r.wt).toNat
    rw [q2, q3, Int.sub_zero]
theorem sum_le (b : Nat) (l : List Nat) (h : ∀ x ∈ l, x ≤ b) : l.sum ≤ b * l.length := by
  induction l with
  | nil => exact Nat.zero_le _
  | cons x l ih =>
    have h1 := h x (.head _)
    have h2 := ih fun y hy => h y (.tail _ hy)
    rw [List.sum_cons, List.length_cons, Nat.mul_succ, Nat.add_comm]
    exact Nat.add_le_add h2 h1
variable {F : Int} {st : RS} {rows : List Ro}
theorem newW_ok {t : List Int} (ht : t.length = 3) (hb : ∀ x ∈ t, 1 ≤ x ∧ x ≤ 4) {r : Ro} (h : RoOk r) : RoOk (newW t r) := by
  refine ⟨h.nm, ⟨h.b.1, h.b.2.1, h.b.2.2.1, h.b.2.2.2.1, ?_⟩, h.ho⟩
  show 1 ≤ (t[((chp r.name 0 + r.port + r.v) % 3).toNat]?).getD 0 ∧ (t[((chp r.name 0 + r.port + r.v) % 3).toNat]?).getD 0 ≤ 4
  have hl : ((chp r.name 0 + r.port + r.v) % 3).toNat < t.length := by omega
  rw [List.getElem?_eq_getElem hl]
  exact hb _ (List.getElem_mem hl)
theorem roN_new {t : List Int} (rows : List Ro) : (roN rows).map (fun p => (p.1, wcf (tabAt t) p.2)) = roN (rows.map (newW t)) := by
  unfold roN; rw [List.map_map, List.map_map]; rfl
/-- all is made anew -/
theorem L5.regen (hF : 1 ≤ F ∧ F ≤ 100) (l : L5 F st rows) {t : List Int} (ht : t.length = 3) (hb : ∀ x ∈ t, 1 ≤ x ∧ x ≤ 4) {nl' : Nl} {m' : MS} {ka : Addr} {ns : List Int} (hnl : nlC nl' = (nlC st.nl).map (fun p => (p.1, wcf (tabAt t) p.2))) (hl : Lays (choH F) st.m (elsOf nl') m') (ok : StOk ⟨m', nl', ka, ns⟩) :
    L5 F ⟨m', nl', ka, ns⟩ (rows.map (newW t)) := by
  have hN : nlC nl' = roN (rows.map (newW t)) := by rw [hnl, l.nl, roN_new]
  have hro : ∀ r ∈ rows.map (newW t), RoOk r := fun r hr => by
    obtain ⟨q, hq, rfl⟩ := List.mem_map.mp hr
    exact newW_ok ht hb (l.ro q hq)
  have hnames : (rows.map (newW t)).map (·.name) = rows.map (·.name) := by rw [List.map_map]; rfl
  refine ⟨ok, ?_, hN, hro⟩
  have := MR.lays (cho_apart hF.1 hF.2) l.mr l.dd hl (by rw [els_names hN, hnames]; exact l.nd) fun e he k hk => by
    obtain ⟨r, hr, h1, h2⟩ := els_mem hN he
    rw [← h1]; exact (hro r hr).dd k (by rw [h2]; exact hk)
  have e1 : (fun n c => elP (elsOf nl') n c ∨ (n ∉ (elsOf nl').map (·.name) ∧ roP rows n c)) = roP (rows.map (newW t)) := by
    rw [elP_ro hN, els_names hN, hnames]
    funext n c
    apply propext
    constructor
    · rintro (h | ⟨h, r, hr, h1, _⟩)
      · exact h
      · exact absurd (by rw [← h1]; exact List.mem_map_of_mem hr) h
    · exact .inl
  rw [← e1]; exact this
end

end Mc

namespace Mc
theorem rg_nd {w : World} {C : Cx} {ha wa : Addr} {r : Rg} {st : RS} {its : List Item} {s : Shared} (H : S C its s) (hr : ∀ p ∈ rgIts w ha wa r st, p ∈ its) : (st.m.rl.map (·.1)).Nodup ∧ (st.m.dl.map (·.1)).Nodup := by
  obtain ⟨o, _, h1⟩ := H.get (hr (r.rg, DictI (ik PP w) st.m.rl none) (by simp [rgIts]))
  obtain ⟨o2, _, h2⟩ := H.get (hr (r.dist, DictI (sk PP w) st.m.dl none) (by simp [rgIts]))
  exact ⟨h1.nodup, h2.nodup⟩
/-- the row that is told to add_node -/
noncomputable def rowK (f : Ro) (x : Bool) : List (Str × Value) := ("vnodes", vi f.v) :: ("port", vi f.port) :: ("hostname", vs f.host) :: if x then [("weight", vi 9)] else []
noncomputable abbrev cfT (f : Ro) (x : Bool) : Cf := { f.cf with wt := if x then 9 else 1 }
theorem conf_row (vn : Int) (f : Ro) (a : Addr) (x : Bool) : confOf vn f.name (.row a (rowK f x)) = cfT f x := by cases x <;> kernel_rfl
theorem ne_pn : ¬ ("port" : Str) = "nodename" := by decide +kernel
theorem ne_pv : ¬ ("port" : Str) = "vnodes" := by decide +kernel
theorem ne_pw : ¬ ("port" : Str) = "weight" := by decide +kernel
theorem ne_hn : ¬ ("hostname" : Str) = "nodename" := by decide +kernel
theorem ne_hv : ¬ ("hostname" : Str) = "vnodes" := by decide +kernel
theorem ne_hw : ¬ ("hostname" : Str) = "weight" := by decide +kernel
theorem ne_vn : ¬ ("vnodes" : Str) = "nodename" := by decide +kernel
theorem ne_vw : ¬ ("vnodes" : Str) = "weight" := by decide +kernel
theorem ne_wn : ¬ ("weight" : Str) = "nodename" := by decide +kernel
theorem ne_wv : ¬ ("weight" : Str) = "vnodes" := by decide +kernel
theorem rowOk_k (f : Ro) (x : Bool) : RowOk (rowK f x) := by
  intro p hp
  rcases List.mem_cons.mp hp with rfl | hp
  · exact ⟨fun h => absurd h ne_vn, fun _ => ⟨_, rfl⟩, fun h => absurd h ne_vw⟩
  rcases List.mem_cons.mp hp with rfl | hp
  · exact ⟨fun h => absurd h ne_pn, fun h => absurd h ne_pv, fun h => absurd h ne_pw⟩
  rcases List.mem_cons.mp hp with rfl | hp
  · exact ⟨fun h => absurd h ne_hn, fun h => absurd h ne_hv, fun h => absurd h ne_hw⟩
  cases x with
  | false => cases hp
  | true =>
    have hp := List.mem_singleton.mp hp
    subst hp
    exact ⟨fun h => absurd h ne_wn, fun h => absurd h ne_wv, fun _ => ⟨_, rfl⟩⟩
theorem rowK_len (f : Ro) (x : Bool) : (rowK f x).length ≤ 4 := by cases x <;> simp [rowK]
theorem rowK_six (f : Ro) (x : Bool) : ∀ p ∈ rowK f x, p.1 ∈ six := by
  intro p hp
  rcases List.mem_cons.mp hp with rfl | hp
  · exact (by decide +kernel : ("vnodes" : Str) ∈ six)
  rcases List.mem_cons.mp hp with rfl | hp
  · exact (by decide +kernel : ("port" : Str) ∈ six)
  rcases List.mem_cons.mp hp with rfl | hp
  · exact (by decide +kernel : ("hostname" : Str) ∈ six)
  cases x with
  | false => cases hp
  | true => have hp := List.mem_singleton.mp hp; subst hp; exact (by decide +kernel : ("weight" : Str) ∈ six)
theorem abc_one : ∀ n ∈ abc, ∃ ch, n.cps.toList = [ch] := by
  intro n h
  rcases List.mem_cons.mp h with rfl | h
  · exact ⟨97, by decide +kernel⟩
  rcases List.mem_cons.mp h with rfl | h
  · exact ⟨98, by decide +kernel⟩
  rw [List.mem_singleton] at h; subst h; exact ⟨99, by decide +kernel⟩
theorem abc_len : ∀ n ∈ abc, n.length ≤ 100 := by decide +kernel
theorem abc_ok : ∀ n ∈ abc, PySem.PyData.strOk n = true := by decide +kernel
section
variable {w : World} {C : Cx} {ha wa seen : Addr} {hIts wS : List Item} {F : Int} {t : List Int}
/-- ring.get_points() -/
theorem law_pts (hB : Bs PP w (hK w.params) gl C) {st : RS} {rows : List Ro} (l : L5 F st rows) {A : Around} {its : List Item} {s : Shared} {Q E : Value → Shared → Prop} {r : Rg}
    (hA : Rm A 2 20) (H : S C its s) (hr : ∀ p ∈ rgIts w ha wa r st, p ∈ its) (hQ : ∀ D ts s', ts.length = st.ns.length → S C ((D, ListI (ts.map .ref)) :: (tupIts ts (ptsOf st.ns st.m.rl) ++ its)) s' → Q (.ref D) s') : wpAny (model PP w) A (call (.ref 285) [.ref r.hr]) Q E s := by
  have hz := l.rl_len (rg_nd H hr).1
  have ok := l.ok
  have hl : st.ns.length = st.m.rl.length := by rw [ok.pm.length_eq, List.length_map]
  exact ring_points w C hB r.hr r.hrd r.rt r.rtd r.dist st.ka r.npts r.nodes r.rg ha r.vn (.ref wa) st.ns st.m.rl (by omega) ok.pm ok.g.st A its s Q E hA H
    (hr _ (by simp [rgIts])) (hr _ (by simp [rgIts])) (hr _ (by simp [rgIts])) (hr _ (by simp [rgIts])) (hr _ (by simp [rgIts])) (hr _ (by simp [rgIts])) hQ
/-- ring.remove_node(name) -/
theorem law_rm (hB : Bs PP w (hK w.params) gl C) (hF : 1 ≤ F ∧ F ≤ 100) {st : RS} {rows : List Ro} (l : L5 F st rows) {A : Around} {rest : List Item} {s : Shared} {Q E : Value → Shared → Prop} {r : Rg} {name : Str} {u : Tok}
    (hA : Rm A 3 30) (hn : name ∈ rows.map (·.name)) (H : S C (rgIts w ha wa r st ++ rest) s) (hQ : ∀ st' s', L5 F st' (rmRo rows name) → S C (rgIts w ha wa r st' ++ rest) s' → Q .none s') : wpAny (model PP w) A (call (.ref 171) [.ref r.hr, .str name u]) Q E s := by
  have nd := rg_nd H (r := r) (st := st) (ha := ha) (wa := wa) fun p hp => List.mem_append_left _ hp
  have z1 := l.rl_len nd.1
  have z2 := l.dl_len nd.2
  have z3 := l.pl_len
  have z4 := l.nl_len
  refine ring_rm w C hB ha wa r st l.ok A rest s Q E name u hA (by rw [l.names]; exact hn) ((l.mr.pls name).mpr ?_) (by omega) (by omega) (by omega) (by omega) H fun ka ns s' ok H' => ?_
  · obtain ⟨q, hq, rfl⟩ := List.mem_map.mp hn
    exact ⟨_, q, hq, rfl, rfl⟩
  exact hQ _ s' (l.rm hF ok) H'
theorem nlAt_mem {nl : Nl} {name : Str} {c : Cf} (h : nlAt nl name = some c) : (name, c) ∈ nlC nl := by
  unfold nlAt at h
  obtain ⟨p, hp, rfl⟩ := Option.map_eq_some_iff.mp h
  have h1 := List.mem_of_find?_eq_some hp
  have h2 := List.find?_some hp
  have h2 : p.1 = name := of_decide_eq_true h2
  exact List.mem_map.mpr ⟨p, h1, by rw [h2]⟩
/-- ring.add_node(name, row) -/
theorem law_add (hB : Bs PP w (hK w.params) gl C) (hF : 1 ≤ F ∧ F ≤ 100) {st : RS} {rows : List Ro} (l : L5 F st rows) (hh : HOk w C ha hIts (choH F) choDom) (hw : WOk w C wa wS seen (tabAt t) domW) {g : List (Addr × Cf)} (hg : g.length ≤ 1000) {A : Around} {rest : List Item} {s : Shared} {Q E : Value → Shared → Prop} {r : Rg} {u : Tok} (f : Ro) (hf : RoOk f) (hft : tabAt t f.cf = f.wt) (x : Bool) {ca : Addr}
    (hA : Rm A 8 80) (hr0 : ∀ p ∈ hIts, p ∈ rest) (hw0 : ∀ p ∈ wS, p ∈ rest) (hrow : (ca, DictI (sk PP w) (rowK f x) none) ∈ rest)
    (H : S C (rgIts w ha wa r st ++ (toldIts seen g ++ rest)) s)
    (hQ : ∀ st' g' s', L5 F st' (setRo rows f) → g'.map (·.2) = g.map (·.2) ++ [cfT f x] → S C (rgIts w ha wa r st' ++ (toldIts seen g' ++ rest)) s' → Q .none s') : wpAny (model PP w) A (call (.ref 203) [.ref r.hr, .str f.name u, .ref ca]) Q E s := by
  have nd := rg_nd H (r := r) (st := st) (ha := ha) (wa := wa) fun p hp => List.mem_append_left _ hp
  have z1 := l.rl_len nd.1
  have z2 := l.dl_len nd.2
  have z3 := l.pl_len
  have z4 := l.nl_len
  have hcf : wcf (tabAt t) (confOf r.vn f.name (.row ca (rowK f x))) = f.cf := by
    rw [conf_row]
    show ({ f.cf with wt := tabAt t (cfT f x) } : Cf) = f.cf
    rw [show tabAt t (cfT f x) = f.wt from hft]
  have hcnt : (f.cf.v * f.cf.wt - 0).toNat = f.cnt := by rw [Int.sub_zero]; rfl
  have hc8 := hf.cnt
  obtain ⟨b1, b2, b3, b4, b5, b6⟩ := hf.b
  refine ring_add w C hB wS seen (tabAt t) domW wa hw g ha hIts (choH F) choDom hh r st l.ok A rest s Q E f.name u ca (rowK f x) hA hr0 hw0 ⟨hrow, rowOk_k f x, by have := rowK_len f x; omega, rowK_six f x⟩ (by omega) (by omega) (by omega) (by omega)
    (by rw [conf_row]; exact ⟨abc_one _ hf.nm, _, rfl⟩) f.cf hcf.symm ⟨b1, by show f.v ≤ 1000; omega, b5, by show f.wt ≤ 1000; omega⟩ (abc_len _ hf.nm) (fun k hk => cho_dom (hf.dd k (by rw [hcnt] at hk; exact hk))) (by rw [hcnt]; omega) H ?_ ?_
  · intro a pa ka ns g' s' _ hg' ok H'
    rw [conf_row] at hg'
    rw [hcnt] at ok H'
    exact hQ _ g' s' (l.add1 hF hf ok) hg' H'
  · intro a g' s' hc hg' ok H'
    rw [conf_row] at hg'
    unfold chgOf at hc
    obtain ⟨hc, hc3⟩ := Bool.or_eq_false_iff.mp hc
    obtain ⟨hc1, hc2⟩ := Bool.or_eq_false_iff.mp hc
    cases hat : nlAt st.nl f.name with
    | none => rw [hat] at hc1; cases hc1
    | some c =>
      rw [hat] at hc2 hc3
      have hm := nlAt_mem hat
      rw [l.nl] at hm
      obtain ⟨q, hq, e⟩ := List.mem_map.mp hm
      injection e with e1 e2
      subst e2
      have hv : q.v = f.v := by
        have h1 : chg (some q.cf) (("vnodes" : Str), vi f.v) = false := by
          have h2 : (rowK f x).any (chg (some q.cf)) = false := hc2
          rw [List.any_eq_false] at h2
          exact Bool.eq_false_iff.mpr (h2 _ (.head _))
        have h3 : chg (some q.cf) (("vnodes" : Str), vi f.v) = decide (q.v ≠ f.v) := by
          unfold chg; rw [if_neg ne_vn, if_pos rfl]
        rw [h3] at h1
        exact Classical.byContradiction fun z => by rw [decide_eq_true z] at h1; cases h1
      have hwt : q.wt = f.wt := by
        have h3 : chgW (some q.cf) (tabAt t (confOf r.vn f.name (.row ca (rowK f x)))) = decide (q.wt ≠ f.wt) := by
          rw [conf_row, show tabAt t (cfT f x) = f.wt from hft]; rfl
        rw [h3] at hc3
        exact Classical.byContradiction fun z => by rw [decide_eq_true z] at hc3; cases hc3
      exact hQ _ g' s' (l.add2 hf hq e1 (by unfold Ro.cnt; rw [hv, hwt]) ok) hg' H'
/-- ring.regenerate() -/
theorem law_regen (hB : Bs PP w (hK w.params) gl C) (hF : 1 ≤ F ∧ F ≤ 100) {st : RS} {rows : List Ro} (l : L5 F st rows) (hh : HOk w C ha hIts (choH F) choDom) (hw : WOk w C wa wS seen (tabAt t) domW) (ht : t.length = 3) (htb : ∀ x ∈ t, 1 ≤ x ∧ x ≤ 4) {g : List (Addr × Cf)} (hg : g.length ≤ 1000) {A : Around} {rest : List Item} {s : Shared} {Q E : Value → Shared → Prop} {r : Rg}
    (hA : Rm A 8 80) (hr0 : ∀ p ∈ hIts, p ∈ rest) (hw0 : ∀ p ∈ wS, p ∈ rest)
    (H : S C (rgIts w ha wa r st ++ (toldIts seen g ++ rest)) s)
    (hQ : ∀ st' g' s', L5 F st' (rows.map (newW t)) → g'.map (·.2) = g.map (·.2) ++ rows.map Ro.cf → S C (rgIts w ha wa r st' ++ (toldIts seen g' ++ rest)) s' → Q .none s') : wpAny (model PP w) A (call (.ref 315) [.ref r.hr]) Q E s := by
  have nd := rg_nd H (r := r) (st := st) (ha := ha) (wa := wa) fun p hp => List.mem_append_left _ hp
  have z1 := l.rl_len nd.1
  have z2 := l.dl_len nd.2
  have z3 := l.pl_len
  have z4 := l.nl_len
  have z5 := l.len
  have hcfs : st.nl.map (·.2.2) = rows.map Ro.cf := by
    have := congrArg (List.map (·.2)) l.nl
    unfold nlC roN at this
    rw [List.map_map, List.map_map] at this
    exact this
  refine ring_regen w C hB wS seen (tabAt t) domW wa hw g ha hIts (choH F) choDom hh r st l.ok A rest s Q E hA hr0 hw0 (by omega) (by omega) (by omega) (by omega) (fun p hp => ?_) (fun nl' hnl => ?_) H fun nl' m' ka ns g' s' hnl hl hg' ok H' => ?_
  · have : p.2.2 ∈ rows.map Ro.cf := by rw [← hcfs]; exact List.mem_map_of_mem (f := fun p : Str × Addr × Cf => p.2.2) hp
    obtain ⟨q, hq, e⟩ := List.mem_map.mp this
    rw [← e]
    exact ⟨abc_one _ (l.ro q hq).nm, _, rfl⟩
  · have hN : nlC nl' = roN (rows.map (newW t)) := by rw [hnl, l.nl, roN_new]
    have hlen : nl'.length = rows.length := by rw [← nlC_len, hN, roN, List.length_map, List.length_map]
    have hro : ∀ q ∈ rows.map (newW t), RoOk q := fun q hq => by
      obtain ⟨q', hq', rfl⟩ := List.mem_map.mp hq
      exact newW_ok ht htb (l.ro q' hq')
    refine ⟨⟨fun p hp => ?_, ?_, by omega⟩, ?_⟩
    · have hm : (p.1, p.2.2) ∈ nlC nl' := List.mem_map.mpr ⟨p, hp, rfl⟩
      rw [hN] at hm
      obtain ⟨q, hq, e⟩ := List.mem_map.mp hm
      injection e with e1 e2
      have hk := hro q hq
      obtain ⟨b1, b2, b3, b4, b5, b6⟩ := hk.b
      rw [← e1, ← e2]
      refine ⟨b1, by show q.v ≤ 1000; omega, b5, by show q.wt ≤ 1000; omega, abc_len _ hk.nm, fun k hk' => cho_dom (hk.dd k ?_)⟩
      have : (q.cf.v * q.cf.wt - 0).toNat = q.cnt := by rw [Int.sub_zero]; rfl
      rw [this] at hk'; exact hk'
    all_goals
      rw [els_cnts hN]
      have := sum_le 8 ((rows.map (newW t)).map Ro.cnt) fun x hx => by
        obtain ⟨q, hq, rfl⟩ := List.mem_map.mp hx
        exact (hro q hq).cnt.2
      rw [List.length_map, List.length_map] at this
      omega
  · rw [hcfs] at hg'
    exact hQ _ g' s' (l.regen hF ht htb hnl hl ok) hg' H'
/-- a method of a ring -/
theorem law_meth (hB : Bs PP w (hK w.params) gl C) {A : Around} {its : List Item} {s : Shared} {Q : Value × List Value → Shared → Prop} {E : Value → Shared → Prop} {pl : Sem Bool} {r : Rg} {st : RS} {name : Str} {f : Addr} (H : S C its s) (hr : ∀ p ∈ rgIts w ha wa r st, p ∈ its) (hp : (name, f) ∈ ms390)
    (h : Q (.ref f, [.ref r.hr]) s) : wpAny (model PP w) A (getMethod (.ref r.hr) name pl) Q E s :=
  rc_meth H hB (hr (r.hr, InstI 390 r.hrd) (by simp [rgIts])) (c390 w) (hr (r.hrd, DictI (sk PP w) (hrA r.rt r.vn (.ref wa)) none) (by simp [rgIts])) hp (by
    have : ∀ p ∈ ms390, ((hrA r.rt r.vn (.ref wa)).map (·.1)).contains p.1 = false := by
      have : (ms390.all fun p => !((["runtime", "_default_vnodes", "_weight_fn"] : List Str).contains p.1)) = true := by decide +kernel
      intro p hp
      have := List.all_eq_true.mp this p hp
      simpa using this
    exact this _ hp) h
/-- the property conf -/
theorem p_conf (hB : Bs PP w (hK w.params) gl C) {A : Around} {its : List Item} {s : Shared} {Q E : Value → Shared → Prop} {r : Rg} {st : RS} {expr : Bool} (hA : Rm A 1 10) (H : S C its s) (hr : ∀ p ∈ rgIts w ha wa r st, p ∈ its)
   (hQ : ∀ s', S C its s' → Q (.ref r.nodes) s') : wpAny (model PP w) A (getAttr (.ref r.hr) "conf" expr) Q E s := by
  have h1 : (r.hr, InstI 390 r.hrd) ∈ its := hr _ (by simp [rgIts])
  have h2 : (r.hrd, DictI (sk PP w) (hrA r.rt r.vn (.ref wa)) none) ∈ its := hr _ (by simp [rgIts])
  have h3 : (r.rt, InstI 118 r.rtd) ∈ its := hr _ (by simp [rgIts])
  have h4 : (r.rtd, DictI (sk PP w) (rtA r.dist st.ka r.npts r.nodes r.rg (.ref ha)) none) ∈ its := hr _ (by simp [rgIts])
  refine rc_prop H hB h1 (c390 w) h2 (p := 323) (fget := 322) (by walk_at "mb") fun s tk H => ?_
  have hA' : Rm A.in1 (0 + 1) (6 + 3) := Rm.in1 hA
  refine call_fnL H hB (hB.k H 322 _ rfl) rfl (codeRec_of (hB.k H) (by kernel_rfl)) rfl hA' (BindsTo.of_eq rfl) (by kernel_rfl) (by kernel_rfl) (loc := [("self", some (.ref r.hr))]) (by kernel_rfl) rfl ?_
  intro L s A1 E1 hA1 H env
  repeat' walk1
  exact handed_on rfl (hQ _ H.tail)
end
theorem kwok3 (ha wa : Addr) (vn : Int) (t : Tok) : KwOk [("hash_fn", .ref ha), ("vnodes", .int vn t), ("weight_fn", .ref wa)] ha wa vn :=
  ⟨by kernel_rfl, by kernel_rfl, by kernel_rfl, by kernel_rfl, fun p hp => by
    rcases List.mem_cons.mp hp with rfl | hp
    · exact ⟨(by decide +kernel : ¬ (("hash_fn" : Str) = "self")), (by decide +kernel : ¬ (("hash_fn" : Str) = "nodes"))⟩
    rcases List.mem_cons.mp hp with rfl | hp
    · exact ⟨(by decide +kernel : ¬ (("vnodes" : Str) = "self")), (by decide +kernel : ¬ (("vnodes" : Str) = "nodes"))⟩
    rw [List.mem_singleton] at hp; subst hp; exact ⟨(by decide +kernel : ¬ (("weight_fn" : Str) = "self")), (by decide +kernel : ¬ (("weight_fn" : Str) = "nodes"))⟩, by simp⟩

end Mc

namespace Mc
noncomputable def rowPts (F : Int) (r : Ro) : List (Int × Str) := (List.range r.cnt).map fun k => (choH F (keyN r.name k), r.name)
noncomputable def allP (F : Int) (rows : List Ro) : List (Int × Str) := rows.flatMap (rowPts F)
theorem mem_allP {F : Int} {rows : List Ro} {p : Int} {n : Str} : (p, n) ∈ allP F rows ↔ ∃ c k, roP rows n c ∧ k < c ∧ p = choH F (keyN n k) := by
  constructor
  · intro h
    obtain ⟨r, hr, h⟩ := List.mem_flatMap.mp h
    obtain ⟨k, hk, e⟩ := List.mem_map.mp h
    injection e with e1 e2
    subst e1 e2
    exact ⟨_, k, ⟨r, hr, rfl, rfl⟩, List.mem_range.mp hk, rfl⟩
  · rintro ⟨c, k, ⟨r, hr, rfl, rfl⟩, hk, rfl⟩
    exact List.mem_flatMap.mpr ⟨r, hr, List.mem_map.mpr ⟨k, List.mem_range.mpr hk, rfl⟩⟩
theorem allP_nd {F : Int} (hF : 1 ≤ F ∧ F ≤ 100) : ∀ {rows : List Ro}, (rows.map (·.name)).Nodup → (∀ r ∈ rows, RoOk r) → ((allP F rows).map (·.1)).Nodup
  | [], _, _ => by simp [allP]
  | r :: rows, nd, ho => by
    rw [List.map_cons, List.nodup_cons] at nd
    have ih := allP_nd hF nd.2 fun q hq => ho q (.tail _ hq)
    have hA := cho_apart hF.1 hF.2
    have hr := ho r (.head _)
    have e : allP F (r :: rows) = rowPts F r ++ allP F rows := List.flatMap_cons
    rw [e, List.map_append, List.nodup_append]
    refine ⟨?_, ih, fun p hp q hq e => ?_⟩
    · unfold rowPts
      rw [List.map_map]
      refine List.Pairwise.map _ (R := fun a b => a < r.cnt ∧ b < r.cnt ∧ a ≠ b) (fun a b h e => h.2.2 (hA _ _ _ _ (hr.dd a h.1) (hr.dd b h.2.1) e).2) ?_
      refine List.pairwise_iff_getElem.mpr fun i j hi hj hij => ?_
      rw [List.getElem_range, List.getElem_range]
      rw [List.length_range] at hi hj
      exact ⟨hi, hj, Nat.ne_of_lt hij⟩
    · obtain ⟨⟨p1, n1⟩, h1, rfl⟩ := List.mem_map.mp hp
      obtain ⟨⟨p2, n2⟩, h2, rfl⟩ := List.mem_map.mp hq
      dsimp only at e
      unfold rowPts at h1
      obtain ⟨k, hk, e1⟩ := List.mem_map.mp h1
      injection e1 with e1 e2
      obtain ⟨c, k2, ⟨q, hq, e3, rfl⟩, hk2, e4⟩ := mem_allP.mp h2
      have hqd := (ho q (.tail _ hq)).dd k2 hk2
      rw [e3] at hqd
      have := (hA _ _ _ _ (hr.dd k (List.mem_range.mp hk)) hqd (e1.trans (e.trans e4))).1
      exact nd.1 (by rw [this, ← e3]; exact List.mem_map_of_mem hq)
theorem L5.allP_len {F : Int} {st : RS} {rows : List Ro} (hF : 1 ≤ F ∧ F ≤ 100) (l : L5 F st rows) : (allP F rows).length ≤ 24 := by
  have := nd_len (m := allPts F) (allP_nd hF l.nd l.ro) fun p hp => by
    obtain ⟨⟨p, n⟩, h, rfl⟩ := List.mem_map.mp hp
    obtain ⟨c, k, ⟨q, hq, h1, rfl⟩, hk, e⟩ := mem_allP.mp h
    dsimp only
    have := (l.ro q hq).cnt
    rw [e, ← h1]
    exact List.mem_flatMap.mpr ⟨q.name, (l.ro q hq).nm, List.mem_map.mpr ⟨k, List.mem_range.mpr (by omega), rfl⟩⟩
  rw [List.length_map, allPts_len] at this
  exact this
/-- the ring's points are the law's, sorted -/
theorem L5.pts {F : Int} {st : RS} {rows : List Ro} (hF : 1 ≤ F ∧ F ≤ 100) (l : L5 F st rows) (nd : (st.m.rl.map (·.1)).Nodup) {ps : List (Int × Str)} (hp : ps.Perm (allP F rows)) (hs : (ps.map (·.1)).Pairwise (· < ·)) : ps.map pairOf = ptsOf st.ns st.m.rl := by
  have hK : (ps.map (·.1)).Perm st.ns := by
    have nd1 : (ps.map (·.1)).Nodup := hs.imp fun h => Int.ne_of_lt h
    refine List.Perm.trans ?_ l.ok.pm.symm
    refine (List.perm_ext_iff_of_nodup nd1 nd).mpr fun p => ?_
    rw [← valueAt_isSome]
    constructor
    · intro h
      obtain ⟨⟨p, n⟩, h1, rfl⟩ := List.mem_map.mp h
      obtain ⟨c, k, h2, h3, h4⟩ := mem_allP.mp (hp.mem_iff.mp h1)
      rw [(l.mr.pt p (vs n)).mpr ⟨n, c, k, h2, h3, h4, rfl⟩]; rfl
    · intro h
      obtain ⟨X, hX⟩ := Option.isSome_iff_exists.mp h
      obtain ⟨n, c, k, h2, h3, h4, _⟩ := (l.mr.pt p X).mp hX
      exact List.mem_map.mpr ⟨(p, n), hp.mem_iff.mpr (mem_allP.mpr ⟨c, k, h2, h3, h4⟩), rfl⟩
  have e := sorted_eq hK (hs.imp fun h => Int.le_of_lt h) l.ok.so
  unfold ptsOf
  rw [← e, List.map_map]
  refine List.map_congr_left fun ⟨p, n⟩ h => ?_
  obtain ⟨c, k, h2, h3, h4⟩ := mem_allP.mp (hp.mem_iff.mp h)
  have := (l.mr.pt p (vs n)).mpr ⟨n, c, k, h2, h3, h4, rfl⟩
  simp only [Function.comp, this]
  rfl
/- values as data -/
noncomputable def toD (v : Value) : PyData := match v with | .int i _ => .int i | .str x _ => .str x | _ => .none
noncomputable def Sk (v : Value) : Prop := v = .none ∨ (∃ i, v = vi i) ∨ ∃ x, v = vs x ∧ PySem.PyData.strOk x = true
theorem dens_sk (its : List Item) : ∀ row : List Value, (∀ v ∈ row, Sk v) → Dens its (row.map toD) row
  | [], _ => by simp [Dens]
  | v :: row, h => by
    simp only [List.map_cons, Dens]
    refine ⟨_, _, rfl, ?_, dens_sk its row fun x hx => h x (.tail _ hx)⟩
    rcases h v (.head _) with rfl | ⟨i, rfl⟩ | ⟨x, rfl, _⟩
    · simp [toD, Den]
    · simp [toD, Den, vi]
    · simp [toD, Den, vs]
theorem okds_sk : ∀ row : List Value, (∀ v ∈ row, Sk v) → okDs (row.map toD) = true ∧ PyData.depthAll (row.map toD) = 0
  | [], _ => by simp [okDs, PyData.depthAll]
  | v :: row, h => by
    obtain ⟨h1, h2⟩ := okds_sk row fun x hx => h x (.tail _ hx)
    rw [List.map_cons, okDs, PyData.depthAll, h1, h2]
    rcases h v (.head _) with rfl | ⟨i, rfl⟩ | ⟨x, rfl, hx⟩
    · simp [toD, okD, PyData.depth]
    · simp [toD, okD, PyData.depth, vi]
    · simp [toD, okD, PyData.depth, vs, hx]
/-- rows of plain values: as tuples (T) or lists -/
noncomputable def rowD (T : Bool) (row : List Value) : PyData := if T then .tuple (row.map toD) else .list (row.map toD)
noncomputable def rowI (T : Bool) (row : List Value) : Obj → Prop := if T then TupI row else ListI row
noncomputable def rowIts (T : Bool) (ts : List Addr) (ds : List (List Value)) : List Item := (ts.zip ds).map fun p => (p.1, rowI T p.2)
theorem dens_rows {T : Bool} {its : List Item} : ∀ (ts : List Addr) (ds : List (List Value)), ts.length = ds.length → (∀ p ∈ rowIts T ts ds, p ∈ its) → (∀ row ∈ ds, ∀ v ∈ row, Sk v) → Dens its (ds.map (rowD T)) (ts.map .ref)
  | [], [], _, _, _ => by simp [Dens]
  | [], _ :: _, h, _, _ => by simp at h
  | _ :: _, [], h, _, _ => by simp at h
  | t :: ts, d :: ds, h, hm, hs => by
    simp only [List.map_cons, Dens]
    refine ⟨_, _, rfl, ?_, dens_rows ts ds (by simpa using h) (fun p hp => hm p (by unfold rowIts at hp ⊢; rw [List.zip_cons_cons, List.map_cons]; exact .tail _ hp)) fun row hr => hs row (.tail _ hr)⟩
    have h1 := hm (t, rowI T d) (by unfold rowIts; rw [List.zip_cons_cons, List.map_cons]; exact .head _)
    cases T with
    | true => show Den its (.tuple (d.map toD)) _; rw [Den]; exact ⟨t, d, rfl, h1, dens_sk its d (hs d (.head _))⟩
    | false => show Den its (.list (d.map toD)) _; rw [Den]; exact ⟨t, d, rfl, h1, dens_sk its d (hs d (.head _))⟩
theorem okds_rows {T : Bool} : ∀ ds : List (List Value), (∀ row ∈ ds, ∀ v ∈ row, Sk v) → okDs (ds.map (rowD T)) = true ∧ PyData.depthAll (ds.map (rowD T)) ≤ 1
  | [], _ => by simp [okDs, PyData.depthAll]
  | d :: ds, h => by
    obtain ⟨h1, h2⟩ := okds_rows (T := T) ds fun r hr => h r (.tail _ hr)
    obtain ⟨h3, h4⟩ := okds_sk d (h d (.head _))
    rw [List.map_cons, okDs, PyData.depthAll, h1]
    cases T with
    | true => rw [show rowD true d = .tuple (d.map toD) from rfl, okD, PyData.depth, h3, h4]; exact ⟨rfl, by omega⟩
    | false => rw [show rowD false d = .list (d.map toD) from rfl, okD, PyData.depth, h3, h4]; exact ⟨rfl, by omega⟩
theorem den_rows {T : Bool} {its : List Item} {D : Addr} {ts : List Addr} {ds : List (List Value)} (h : ts.length = ds.length) (hD : (D, ListI (ts.map .ref)) ∈ its) (hm : ∀ p ∈ rowIts T ts ds, p ∈ its) (hs : ∀ row ∈ ds, ∀ v ∈ row, Sk v) : Den its (.list (ds.map (rowD T))) (.ref D) := by
  rw [Den]; exact ⟨D, _, rfl, hD, dens_rows ts ds h hm hs⟩
theorem okd_rows {T : Bool} {ds : List (List Value)} (hs : ∀ row ∈ ds, ∀ v ∈ row, Sk v) : OkD (.list (ds.map (rowD T))) := by
  have := okds_rows (T := T) ds hs
  exact ⟨by rw [okD]; exact this.1, by rw [PyData.depth]; have := this.2; omega⟩
theorem den_flat {its : List Item} {D : Addr} {row : List Value} (hD : (D, ListI row) ∈ its) (hs : ∀ v ∈ row, Sk v) : Den its (.list (row.map toD)) (.ref D) := by
  rw [Den]; exact ⟨D, _, rfl, hD, dens_sk its row hs⟩
theorem okd_flat {row : List Value} (hs : ∀ v ∈ row, Sk v) : OkD (.list (row.map toD)) := by
  have := okds_sk row hs
  exact ⟨by rw [okD]; exact this.1, by rw [PyData.depth, this.2]; decide⟩
theorem L5.pts_sk {F : Int} {st : RS} {rows : List Ro} (l : L5 F st rows) : ∀ row ∈ ptsOf st.ns st.m.rl, ∀ v ∈ row, Sk v := by
  intro row hr v hv
  unfold ptsOf at hr
  obtain ⟨k, _, rfl⟩ := List.mem_map.mp hr
  rcases List.mem_cons.mp hv with rfl | hv
  · exact .inr (.inl ⟨k, rfl⟩)
  rw [List.mem_singleton] at hv
  subst hv
  cases e : valueAt st.m.rl k with
  | none => exact .inl rfl
  | some X =>
    obtain ⟨n, c, _, ⟨q, hq, h1, _⟩, _, _, rfl⟩ := (l.mr.pt k X).mp e
    exact .inr (.inr ⟨n, rfl, abc_ok n (by rw [← h1]; exact (l.ro q hq).nm)⟩)
theorem ptsOf_len {ns : List Int} {rl : List (Int × Value)} : (ptsOf ns rl).length = ns.length := List.length_map _
/-- what was told, as data -/
noncomputable def tupC (c : Cf) : List Value := [vs c.nn, c.host, c.inst, c.port, vi c.v, vi c.wt]
theorem told_tups : ∀ g : List (Addr × Cf), (g.map fun p => ((p.1, TupI [vs p.2.nn, p.2.host, p.2.inst, p.2.port, vi p.2.v, vi p.2.wt]) : Item)) = tupIts (g.map (·.1)) ((g.map (·.2)).map tupC)
  | [] => rfl
  | p :: g => by
    have ih := told_tups g
    unfold tupIts at ih ⊢
    rw [List.map_cons, ih]; rfl
theorem told_rows (seen : Addr) (g : List (Addr × Cf)) : toldIts seen g = (seen, ListI ((g.map (·.1)).map .ref)) :: tupIts (g.map (·.1)) ((g.map (·.2)).map tupC) := by
  unfold toldIts
  rw [told_tups, show (g.map (·.1)).map Value.ref = g.map fun p => .ref p.1 from List.map_map]
theorem TurnEnd.monoR {C : Cx} {it : Addr} {P : Obj → Prop} {Inv : List Item → Prop} {R R' : Result → Shared → Prop} {f : Flow} {s : Shared} (h : TurnEnd C it P Inv R f s) (hr : ∀ r s, R r s → R' r s) : TurnEnd C it P Inv R' f s := by
  cases f <;> first | exact h | exact hr _ _ h
/-- a loop that may break -/
theorem for_nxB {prog : Program} {w : World} {A : Around} {C : Cx} {its : List Item} {s : Shared} {it : Addr} {env : Env} {n : Nat} {elt : Nat → Value → Prop} {P : Nat → Obj → Prop} {need : List Item → Prop} {R : Result → Shared → Prop} {x : Str} {p : Pos} {body orelse : List Stmt}
    (N : Nx prog w C it n elt P need) (hA : A.handled = none) (Inv : Nat → List Item → Prop) (Br : List Item → Prop) (hneed : ∀ i l, Inv i l → need l) (h0 : Inv 0 its) (H : S C ((it, P 0) :: its) s)
    (turn : ∀ i v l s₁ (E' : Value → Shared → Prop), i < n → elt i v → Inv i l → S C ((it, P (i + 1)) :: l) s₁ →
      ∀ QI : Flow → Shared → Prop, (∀ f s, TurnEnd C it (P (i + 1)) (Inv (i + 1)) (fun r s => r = .ok .next ∧ ∃ l, Br l ∧ S C l s) f s → QI f s) →
      wpAny (model prog w) A (storeName env x v) (fun _ s₂ => wpAny (model prog w) A (execs body env) QI E' s₂) E' s₁)
    (brk : ∀ l s, Br l → S C l s → R (.ok .next) s)
    (done : ∀ l s₁ (E' : Value → Shared → Prop), Inv n l → S C l s₁ → wpAny (model prog w) A (execs orelse env) (fun f s₃ => R (.ok f) s₃) E' s₁) :
    codeAny (model prog w) A (.forLoop (.Name x p) (.ref it) body orelse env) R s :=
  for_nx N hA Inv hneed h0 H (fun i v l s₁ E' hi he hI H' => turn i v l s₁ E' hi he hI H' _ fun _ _ h => h.monoR fun r s ⟨e, l, h1, h2⟩ => by rw [e]; exact brk l s h1 h2) done
theorem post_local {prog : Program} {w : World} {A : Around} {E : Value → Shared → Prop} {C : Cx} {its its' : List Item} {s : Shared} {Q : Value → Shared → Prop} {env : Env} {y : Str} {py : Pos} {D cf L : Addr} {loc loc' m0 : List (Str × Option Value)}
    (H : S C ((cf, NsI m0) :: its) s) (hcf : cf ∉ C.tb) (hL : env.locals = L) (hl : env.kindOf y = some .local) (hk : env.scope.kind = .function) (hm : (L, NsI loc) ∈ its) (hP : Pu y (some (.ref D)) loc loc') (hU : Up L (NsI loc) (NsI loc') its its') (h : ∀ s', S C its' s' → Q .none s') :
    compPost (model prog w) A E (some (assign (.Name y py) env)) Q (.ref D) cf (.ok .next) s := by
  show wpAny _ _ (assign (.Name y py) env (.ref D)) _ _ _
  refine wpAny_assign_Name (st_local H hL hl hk rfl (.tail _ hm) hP (Up.tail hU) fun s' H' => ?_)
  obtain ⟨o, ho, es, ep, hd, hsk, hnd, hp⟩ := H'.get (.head _)
  exact ⟨_, ⟨o, es, ep, ho, hd, hsk, fun _ => rfl⟩, fun h' hs => h _ (H'.extBut hs.extBut hcf)⟩
noncomputable def dT (d : List (Addr × Cf)) : List Item := d.map fun p => (p.1, TupI [vs p.2.nn, p.2.host, p.2.inst, p.2.port, vi p.2.v, vi p.2.wt])
theorem perm5 {X R D G T : List Item} : (X ++ (R ++ (D ++ (G ++ T)))).Perm (G ++ (T ++ (X ++ (R ++ D)))) := by
  have h1 : (X ++ (R ++ (D ++ (G ++ T)))) = ((X ++ (R ++ D)) ++ (G ++ T)) := by simp only [List.append_assoc]
  have h2 : (G ++ (T ++ (X ++ (R ++ D)))) = ((G ++ T) ++ (X ++ (R ++ D))) := by simp only [List.append_assoc]
  rw [h1, h2]
  exact List.perm_append_comm
theorem r_ord {prog : Program} {w : World} {A : Around} {E : Value → Shared → Prop} {s : Shared} {Q : Value → Shared → Prop} {x : Str} {t : Tok} {ch : Nat} (hx : x.cps.toList = [ch]) (h : ∀ u, Q (.int (chp x 0) u) { s with toks := s.toks + 1 }) : wpAny (model prog w) A (call (.builtin "ord") [.str x t]) Q E s := by
  obtain ⟨⟨l⟩⟩ := x
  cases hx
  exact P.ord_of_char (h _)
theorem tab_at {t : List Int} (ht : t.length = 3) (z : Int) : 0 ≤ z.fmod 3 ∧ z.fmod 3 < 9223372036854775808 ∧ (t.map vi)[(z.fmod 3).toNat]? = some (vi ((t[(z % 3).toNat]?).getD 0)) := by
  rw [Int.fmod_eq_emod_of_nonneg _ (by decide)]
  refine ⟨by omega, by omega, ?_⟩
  have hl : (z % 3).toNat < t.length := by omega
  rw [List.getElem?_map, List.getElem?_eq_getElem hl]; rfl
theorem tab_b {t : List Int} (ht : t.length = 3) (htb : ∀ x ∈ t, 1 ≤ x ∧ x ≤ 4) (z : Int) : 1 ≤ (t[(z % 3).toNat]?).getD 0 ∧ (t[(z % 3).toNat]?).getD 0 ≤ 4 := by
  have hl : (z % 3).toNat < t.length := by omega
  rw [List.getElem?_eq_getElem hl]; exact htb _ (List.getElem_mem hl)
theorem ro_split {rows : List Ro} {n : Str} (h : n ∈ rows.map (·.name)) (nd : (rows.map (·.name)).Nodup) : ∃ l1 g l2, rows = l1 ++ g :: l2 ∧ g.name = n ∧ n ∉ l1.map (·.name) ∧ n ∉ l2.map (·.name) := by
  obtain ⟨g, h1, rfl⟩ := List.mem_map.mp h
  obtain ⟨l1, l2, h3⟩ := List.append_of_mem h1
  subst h3
  rw [List.map_append, List.map_cons, List.nodup_append, List.nodup_cons] at nd
  exact ⟨l1, g, l2, rfl, rfl, fun q => nd.2.2 _ q _ (.head _) rfl, nd.2.1.1⟩
theorem setRo_mid {l1 l2 : List Ro} {g f : Ro} (hg : g.name = f.name) (h1 : f.name ∉ l1.map (·.name)) (h2 : f.name ∉ l2.map (·.name)) : setRo (l1 ++ g :: l2) f = l1 ++ f :: l2 := by
  unfold setRo
  rw [if_pos (List.contains_iff_mem.mpr (by simp [hg]))]
  have e : ∀ l : List Ro, f.name ∉ l.map (·.name) → l.map (fun r => if r.name = f.name then f else r) = l := fun l hl => by
    conv => rhs; rw [← List.map_id l]
    refine List.map_congr_left fun p hp => ?_
    rw [if_neg fun q => hl (by rw [← q]; exact List.mem_map_of_mem hp)]; rfl
  rw [List.map_append, List.map_cons, e l1 h1, e l2 h2, if_pos hg]
theorem S.ro {C : Cx} {s : Shared} {rows : List Ro} {f : Ro} {A R : List Item} (nd : (rows.map (·.name)).Nodup) (H : S C (A ++ ((f.ad, ListI f.vals) :: (roIts rows ++ R))) s) : S C (A ++ (roIts (setRo rows f) ++ R)) s := by
  by_cases h : f.name ∈ rows.map (·.name)
  · obtain ⟨l1, g, l2, rfl, hg, h1, h2⟩ := ro_split h nd
    rw [setRo_mid hg h1 h2]
    unfold roIts at H ⊢
    rw [List.map_append] at H ⊢
    refine S.mono (its := A ++ (l1.map (fun r => (r.ad, ListI r.vals)) ++ (f.ad, ListI f.vals) :: ((g :: l2).map (fun r => (r.ad, ListI r.vals)) ++ R))) (H.perm (List.Perm.append_left A ?_)) ?_
    · rw [List.append_assoc]
      exact List.perm_middle.symm
    · refine List.Sublist.append_left ?_ A
      rw [List.append_assoc]
      exact List.Sublist.append_left (List.Sublist.cons_cons _ (List.sublist_cons_self _ _)) _
  · have e : setRo rows f = rows ++ [f] := by unfold setRo; rw [if_neg fun q => h (List.contains_iff_mem.mp q)]
    rw [e]
    unfold roIts at H ⊢
    rw [List.map_append]
    refine H.perm (List.Perm.append_left A ?_)
    rw [List.append_assoc]
    exact List.perm_middle.symm
theorem dT_snoc (d : List (Addr × Cf)) (tp : Addr) (c : Cf) : dT (d ++ [(tp, c)]) = dT d ++ [(tp, TupI (tupC c))] := by unfold dT; rw [List.map_append]; rfl
theorem S.dtA {C : Cx} {s : Shared} {d : List (Addr × Cf)} {tp : Addr} {c : Cf} {A R : List Item} (H : S C (A ++ ((tp, TupI (tupC c)) :: (dT d ++ R))) s) : S C (A ++ (dT (d ++ [(tp, c)]) ++ R)) s := by
  rw [dT_snoc, List.append_assoc]
  exact H.perm (List.Perm.append_left A List.perm_middle.symm)
theorem get_row {w : World} {A : Around} {E : Value → Shared → Prop} {s : Shared} {C : Cx} {its : List Item} {Q : Value → Shared → Prop} {tr : Addr} {f : Ro} {x : Bool} {t u : Tok} (H : S C its s) (hm : (tr, DictI (sk PP w) (rowK f x) none) ∈ its) (h : ∀ v s', er v = vi (cfT f x).wt → S C its s' → Q v s') :
    wpAny (model PP w) A (call (.builtin "dict.get") [.ref tr, .str "weight" t, .int 1 u]) Q E s := by
  cases x with
  | true =>
    refine r_get2_s (X := vi 9) H hm (by walk_at "key") (H.sysm hm) (by kernel_rfl) fun s H => ?_
    exact Ret.int fun t' => h _ _ rfl (S.tkTo H rfl rfl rfl)
  | false =>
    refine r_get2_n H hm (by walk_at "key") (H.sysm hm) (by kernel_rfl) fun s H => ?_
    exact h _ _ rfl H
theorem S.dtB {C : Cx} {s : Shared} {d : List (Addr × Cf)} {tp : Addr} {c : Cf} {A R0 R : List Item} (H : S C (A ++ ((tp, TupI (tupC c)) :: (R0 ++ (dT d ++ R)))) s) : S C (A ++ (R0 ++ (dT (d ++ [(tp, c)]) ++ R))) s := by
  have H1 := H.perm (List.Perm.append_left A (List.perm_middle (l₁ := R0)).symm)
  have e1 : A ++ (R0 ++ ((tp, TupI (tupC c)) :: (dT d ++ R))) = (A ++ R0) ++ ((tp, TupI (tupC c)) :: (dT d ++ R)) := (List.append_assoc _ _ _).symm
  have e2 : A ++ (R0 ++ (dT (d ++ [(tp, c)]) ++ R)) = (A ++ R0) ++ (dT (d ++ [(tp, c)]) ++ R) := (List.append_assoc _ _ _).symm
  rw [e1] at H1
  rw [e2]
  exact S.dtA H1

end Mc

namespace Mc
set_option hygiene false in
local macro_rules | `(tactic| walk_at "call ref") => `(tactic| ((with_reducible show wpAny _ _ (call (Value.ref 401) _) _ _ _); refine take' hB (Rm.le hA1 (by decide) (by decide)) (by walk_at "st") (by k_dflt (walk_at "up")) (by k_dflt (walk_at "size")) ?_; (try clear H); (try clear s); intro _ s H))
set_option hygiene false in
local macro_rules | `(tactic| walk_at "rgin") => `(tactic| first | with_reducible exact List.mem_append_left _ hp | (with_reducible refine List.mem_cons_of_mem _ ?_; walk_at "rgin") | (with_reducible refine List.mem_append_right _ ?_; walk_at "rgin"))
set_option hygiene false in
local macro_rules | `(tactic| walk_at "getMethod ref") => `(tactic| (with_reducible refine law_meth hB (by walk_at "st") (by k_dflt (intro p hp; walk_at "rgin")) (by k_dflt (walk_at "mb")) ?_))
set_option hygiene false in
local macro_rules | `(tactic| walk_at "pk1r") => `(tactic| first | exact Pk1.head | (with_reducible apply Pk1.tail; walk_at "pk1r") | (with_reducible apply Pk1.appR; walk_at "pk1r"))
set_option hygiene false in
local macro_rules | `(tactic| walk_at "pickr") => `(tactic| first | exact Pks.nil | (with_reducible apply Pks.cons; (walk_at "pk1r"); (walk_at "pickr")))
set_option hygiene false in
local macro_rules | `(tactic| walk_at "ro") => `(tactic| first | with_reducible exact ro_0 _ | with_reducible exact ro_1 _ | with_reducible exact ro_2 _ | with_reducible exact ro_3 _ | with_reducible exact ro_4 _)
set_option hygiene false in
local macro_rules | `(tactic| walk_at "subscriptTail") => `(tactic| ((with_reducible show wpAny _ _ (subscriptTail _ _ (Value.ref _) (Value.int _ _)) _ _ _); with_reducible refine sub_list (by walk_at "st") (by k_dflt (walk_at "mb")) (by k_dflt (decide)) (by k_dflt (decide)) (by k_dflt (walk_at "ro")) (by walk_at "wr") ?_; walk_at "ret"))
set_option hygiene false in
local macro_rules | `(tactic| walk_at "getAttr ref") => `(tactic| ((with_reducible show wpAny _ _ (getAttr _ (Str.ofString "conf") _) _ _ _); with_reducible refine p_conf hB (Rm.le hA1 (by decide) (by decide)) (by walk_at "st") (by k_dflt (intro p hp; walk_at "rgin")) ?_; (try clear H); (try clear s); intro s H))
set_option hygiene false in
local macro_rules | `(tactic| walk_at "setItem ref") => `(tactic| ((with_reducible show wpAny _ _ (setItem (Value.ref _) (Value.int _ _) _) _ _ _); with_reducible refine r_setList (by walk_at "st") (by walk_at "er") (by k_dflt (walk_at "up")) (by k_dflt (walk_at "nn")) (by k_dflt (walk_at "nn")) (by k_dflt (walk_at "nn")) ?_; (try clear H); (try clear s); intro s H; (try simp only [List.set_cons_succ, List.set_cons_zero, Int.reduceToNat] at H)))
set_option hygiene false in
local macro_rules | `(tactic| walk_at "nn") => `(tactic| first | decide | assumption | (simp only [List.length_cons, List.length_nil]; decide))
set_option hygiene false in
local macro_rules | `(tactic| walk_at "ro") => `(tactic| with_unfolding_all rfl)

/-- from the start to the loop -/
theorem segA (w : World) (C : Cx) (hB : Bs PP w (hK w.params) gl C) {p : Program} {loose : List Str} {mean : ExcName → Option Value} {mg mb : Str → Option Value} (T : Top p loose mean mg mb C.B) (hC : CodeHd C.B 405 403) (hbm : ∀ a ∈ C.tb, ∃ ps', C.B.get? a = some (tabObj ps')) (htb : C.tb = [89, 403])
   (fa L sl : Addr) (vals : List Value) (ns : List Int) (hsl : C.B.IsList sl vals.toArray) (hin : IntsAre vals ns) (hz : ns.length ≤ 63)
   (nm : Str) (ps : Arguments) (body : List Stmt) (ds : List Expr) (rt : Option Expr) (tp : List TypeParam) (sc : Scope) (ts : Option Scope) (bd : Str) (pos : Pos) (hf : f1 11 = .FunctionDef nm ps body ds rt tp sc ts bd pos) (doc pm : Value)
   (A : Around) (s : Shared) (Q : Flow → Shared → Prop) (E : Value → Shared → Prop) (hA : Rm A 60 200)
   (H : S C ((L, NsI (frW (some (.ref sl)) none none none none none none none none none)) :: (clW L none none none none none none none none none ++ [(89, TabI #[]), (403, TabI #[])])) s)
   (hQ : ∀ (F : Int) (xs : List Int) (bx ha c' wa c2 tbA seenA duA rwA : Addr) (fd fd2 : FuncData) (tab : Array Value) (r : Rg) (ka : Addr) s', 1 ≤ F → F ≤ 100 → xs.length ≤ 63 → HOk w C ha (choIts ha (L + 7) c' F fd) (choH F) choDom → (∀ t : List Int, t.length = 3 → WOk w C wa (wsOf wa c2 seenA tbA (L + 8) (L + 9) t fd2) seenA (tabAt t) domW) → StOk (rs0 ka) →
     S C ((L, NsI (frW (some (.ref sl)) (some (.ref bx)) (some (.ref wa)) (some (.ref rwA)) none none none none none none)) :: (clW L (some (.ref duA)) (some (.ref ha)) (some (.ref r.hr)) none none none (some (vi F)) (some (.ref seenA)) (some (.ref tbA)) ++ ((bx, ListI (xs.map vi)) :: (tbA, ListI (([1, 2, 3] : List Int).map vi)) :: (rwA, ListI []) :: (ha, FnI fd) :: (c', CodeI fd.qualname) :: (wa, FnI fd2) :: (c2, CodeI fd2.qualname) :: (89, TabI #[]) :: (403, TabI tab) :: (duA, ListI []) :: (seenA, ListI []) :: rgIts w ha wa r (rs0 ka)))) s' →
     wpAny (model PP w) A (execs (body.drop 9) (lenv fa L nm ps body sc doc pm (.ref 405))) Q E s') :
   wpAny (model PP w) A (execs body (lenv fa L nm ps body sc doc pm (.ref 405))) Q E s := by
  cases hf
  have hA1 := hA
  refine (show (let env : Env := lenv fa L _ _ _ _ doc pm (.ref 405); wpAny (model PP w) A (execs _ env) Q E s) from ?_)
  intro env
  simp only [List.cons_append, List.nil_append] at H
  iterate 13 walk1
  have hnsl : sl ∉ C.tb := fun hm => by
    obtain ⟨ps', e⟩ := hbm _ hm
    obtain ⟨o, ho, hc, _⟩ := hsl
    rw [e] at ho; cases ho; cases hc
  refine r_slice_given (b := 24) H.tk hsl hin hnsl (by omega) (by with_unfolding_all rfl) (by intro _; with_unfolding_all rfl) fun D1 s H => ?_
  have hl24 : (ns.take 24).length ≤ 24 := by rw [List.length_take]; omega
  generalize ns.take 24 = xs0 at *
  have H : S C _ s := H
  iterate 17 walk1
  have hl1 : xs0.tail.length ≤ 24 := by rw [List.length_tail]; omega
  generalize xs0.headD 0 = r0 at *
  generalize xs0.tail = xs1 at *
  iterate 4 walk1
  rw [fmod_nn (by decide)] at H
  repeat' walk1
  refine nestDef_K rfl rfl rfl ?_
  rename_i tbA seenA duA
  obtain ⟨bx, H⟩ : ∃ bx, S C ((403, TabI #[]) :: ([(L, NsI (frW (some (.ref sl)) (some (.ref bx)) none none none none none none none none))] ++ (clW L (some (.ref duA)) none none none none none (some (vi (1 + r0 % 100))) (some (.ref seenA)) (some (.ref tbA)) ++ [(bx, ListI (List.map vi xs1)), (tbA, ListI (([1, 2, 3] : List Int).map vi)), (seenA, ListI []), (duA, ListI []), (89, TabI #[])]))) s := ⟨_, S.pick (ps := [(403, _), (L, _), (L + 9, _), (L + 8, _), (L + 7, _), (L + 6, _), (L + 5, _), (L + 4, _), (L + 3, _), (L + 2, _), (L + 1, _), (_, ListI (List.map vi xs1)), (tbA, _), (seenA, _), (duA, _), (89, _)]) H (by walk_at "pick") (by walk_at "sub")⟩
  refine r_nest H hB T hC (by rw [htb]; decide) hbm rfl rfl ?_ rfl (clos := [("factor", L + 7)]) rfl (by rw [htb]; simp) fun ha c' ctv doc' pm' s H => ?_
  · trivial
  have hs := cho_str w C hB ha (L + 7) c' (1 + r0 % 100) _ (qualnameIn env "chosen" "chosen") _ _ _ _ _ _ _ _ _ doc' pm' ctv (by omega) (by omega) rfl
  generalize hfd : fnX _ _ _ _ _ _ _ _ _ _ _ _ _ = fd at hs H
  have hq : qualnameIn env "chosen" "chosen" = fd.qualname := by rw [← hfd]
  rw [hq] at H
  clear hfd hq
  simp only [List.cons_append, List.nil_append] at H
  repeat' walk1
  refine nestDef_K rfl rfl rfl ?_
  have H : S C ((403, TabI #[rawInt 331, rawInt 4, .ref c']) :: ([(L, NsI (frW (some (.ref sl)) (some (.ref bx)) none none none none none none none none))] ++ (clW L (some (.ref duA)) (some (.ref ha)) none none none none (some (vi (1 + r0 % 100))) (some (.ref seenA)) (some (.ref tbA)) ++ [(bx, ListI (List.map vi xs1)), (tbA, ListI (([1, 2, 3] : List Int).map vi)), (seenA, ListI []), (duA, ListI []), (ha, FnI fd), (c', CodeI fd.qualname), (89, TabI #[])]))) s := S.pick (ps := [(403, _), (L, _), (L + 9, _), (L + 8, _), (L + 7, _), (L + 6, _), (L + 5, _), (L + 4, _), (L + 3, _), (L + 2, _), (L + 1, _), (_, ListI (List.map vi xs1)), (tbA, _), (seenA, _), (duA, _), (ha, _), (c', _), (89, _)]) H (by walk_at "pick") (by walk_at "sub")
  refine r_nest H hB T hC (by rw [htb]; decide) hbm rfl rfl ?_ ?_ (clos := [("table", L + 9), ("seen", L + 8)]) rfl (by rw [htb]; simp) fun wa c2 ctv2 doc2 pm2 s H => ?_
  · trivial
  · rfl
  have hwk : ∀ t : List Int, t.length = 3 → _ := fun t ht => told_ok w C hB wa c2 seenA tbA (L + 8) (L + 9) t ht _ (qualnameIn env "told" "told") _ _ _ _ _ _ _ _ _ doc2 pm2 ctv2 rfl
  generalize hfd2 : fnX _ _ _ _ _ _ _ _ _ _ _ _ _ = fd2 at hwk H
  have hq2 : qualnameIn env "told" "told" = fd2.qualname := by rw [← hfd2]
  rw [hq2] at H
  clear hfd2 hq2
  simp only [List.cons_append, List.nil_append] at H
  repeat' walk1
  refine hr_init w C hB A _ _ _ _ ha wa fd fd2 _ (hA1.le (by decide) (by decide)) (by walk_at "mb") (by walk_at "mb") [("hash_fn", .ref ha), ("vnodes", .int 2 _), ("weight_fn", .ref wa)] 2 (kwok3 ha wa 2 _) (S.tkTo H rfl rfl rfl) fun r ka s _ ok H => ?_
  have H := H.perm List.perm_append_comm
  simp only [List.cons_append, List.nil_append] at H
  iterate 7 walk1
  rename_i rwA
  obtain ⟨tab, H⟩ : ∃ tab, S C ((L, NsI (frW (some (.ref sl)) (some (.ref bx)) (some (.ref wa)) (some (.ref rwA)) none none none none none none)) :: (clW L (some (.ref duA)) (some (.ref ha)) (some (.ref r.hr)) none none none (some (vi (1 + r0 % 100))) (some (.ref seenA)) (some (.ref tbA)) ++ ((bx, ListI (xs1.map vi)) :: (tbA, ListI (([1, 2, 3] : List Int).map vi)) :: (rwA, ListI []) :: (ha, FnI fd) :: (c', CodeI fd.qualname) :: (wa, FnI fd2) :: (c2, CodeI fd2.qualname) :: (89, TabI #[]) :: (403, TabI tab) :: (duA, ListI []) :: (seenA, ListI []) :: rgIts w ha wa r (rs0 ka)))) s :=
    ⟨_, S.pick (ps := [(L, _), (L + 9, _), (L + 8, _), (L + 7, _), (L + 6, _), (L + 5, _), (L + 4, _), (L + 3, _), (L + 2, _), (L + 1, _), (bx, _), (tbA, _), (rwA, _), (ha, _), (c', _), (wa, _), (c2, _), (89, _), (403, _), (duA, _), (seenA, _)]) H (by walk_at "pick") (by walk_at "sub")⟩
  exact hQ (1 + r0 % 100) xs1 bx ha c' wa c2 tbA seenA duA rwA fd fd2 tab r ka s (by omega) (by omega) (by omega) hs hwk ok H



noncomputable def forBody (l : List Stmt) : List Stmt := match l with | .For _ _ b _ _ :: _ => b | _ => []
theorem abc_item : ∀ i : Nat, i < 3 → Txt.item "abc" (i : Int) ∈ abc := by decide +kernel
theorem ro_at {rows : List Ro} {tl : List Item} (hri : ∀ p ∈ roIts rows, p ∈ tl) {i : Nat} (hi : i < (roL rows).length) {X v : Value} (hX : (roL rows)[i]? = some X) (he : er v = X) : ∃ h : i < rows.length, v = .ref rows[i].ad ∧ (rows[i].ad, ListI rows[i].vals) ∈ tl := by
  have hi' : i < rows.length := by rw [roL, List.length_map] at hi; exact hi
  refine ⟨hi', ?_, hri _ (List.mem_map.mpr ⟨rows[i], List.getElem_mem hi', rfl⟩)⟩
  rw [roL, List.getElem?_map, List.getElem?_eq_getElem hi'] at hX
  cases hX
  exact er_ref he
/-- break, kind, number, name, known -/
theorem segT1 (w : World) (C : Cx) (hB : Bs PP w (hK w.params) gl C) (fa L sl : Addr)
   (nm : Str) (ps : Arguments) (body : List Stmt) (ds : List Expr) (rt : Option Expr) (tp : List TypeParam) (sc : Scope) (ts : Option Scope) (bd : Str) (pos : Pos) (hf : f1 11 = .FunctionDef nm ps body ds rt tp sc ts bd pos) (doc pm : Value)
   (F : Int) (hF : 1 ≤ F ∧ F ≤ 100) (xs : List Int) (hx : xs.length ≤ 63) (bx ha c' wa c2 tbA rwA duA seenA : Addr) (fd fd2 : FuncData) (q q2 : Str) (r : Rg) (t : List Int) (ht : t.length = 3) (htb : ∀ x ∈ t, 1 ≤ x ∧ x ≤ 4) (rows : List Ro) (hro : ∀ r ∈ rows, RoOk r) (hrl : rows.length ≤ 3)
   (turnN : Nat) (tl : List Item) (hri : ∀ p ∈ roIts rows, p ∈ tl) (kiV nuV knV trV ptV naV roV feV : Option Value)
   (A : Around) (s : Shared) (Q : Flow → Shared → Prop) (E : Value → Shared → Prop) (hA : Rm A 60 200)
   (H : S C ((L, NsI (frW (some (.ref sl)) (some (.ref bx)) (some (.ref wa)) (some (.ref rwA)) (some (vi turnN)) kiV nuV knV trV ptV)) :: (clW L (some (.ref duA)) (some (.ref ha)) (some (.ref r.hr)) naV roV feV (some (vi F)) (some (.ref seenA)) (some (.ref tbA)) ++ ((bx, ListI (xs.map vi)) :: (tbA, ListI (t.map vi)) :: (rwA, ListI (roL rows)) :: tl))) s)
   (hQb : turnN ≠ 0 → ∀ s', S C ((L, NsI (frW (some (.ref sl)) (some (.ref bx)) (some (.ref wa)) (some (.ref rwA)) (some (vi turnN)) kiV nuV knV trV ptV)) :: (clW L (some (.ref duA)) (some (.ref ha)) (some (.ref r.hr)) naV roV feV (some (vi F)) (some (.ref seenA)) (some (.ref tbA)) ++ ((bx, ListI (xs.map vi)) :: (tbA, ListI (t.map vi)) :: (rwA, ListI (roL rows)) :: tl))) s' → Q .brk s')
   (hQ : ∀ (kind num : Int) (name : Str) (xs' : List Int) (knA : Addr) s', xs'.length ≤ 63 → 0 ≤ kind ∧ kind < 5 → name ∈ abc →
     S C ((knA, ListI (rows.map fun r => vs r.name)) :: ((L, NsI (frW (some (.ref sl)) (some (.ref bx)) (some (.ref wa)) (some (.ref rwA)) (some (vi turnN)) (some (vi kind)) (some (vi num)) (some (.ref knA)) trV ptV)) :: (clW L (some (.ref duA)) (some (.ref ha)) (some (.ref r.hr)) (some (vs name)) roV feV (some (vi F)) (some (.ref seenA)) (some (.ref tbA)) ++ ((bx, ListI (xs'.map vi)) :: (tbA, ListI (t.map vi)) :: (rwA, ListI (roL rows)) :: tl)))) s' →
     wpAny (model PP w) A (execs ((forBody (body.drop 9)).drop 5) (lenv fa L nm ps body sc doc pm (.ref 405))) Q E s') :
   wpAny (model PP w) A (execs ((forBody (body.drop 9)).drop 0) (lenv fa L nm ps body sc doc pm (.ref 405))) Q E s := by
  cases hf
  have hA1 := hA
  refine (show (let env : Env := lenv fa L _ _ _ _ doc pm (.ref 405); wpAny (model PP w) A (execs (_ :: _) env) Q E s) from ?_)
  intro env
  simp only [List.cons_append, List.nil_append] at H
  have hx1 : xs.tail.length ≤ 63 := by rw [List.length_tail]; omega
  have hx2 : xs.tail.tail.length ≤ 63 := by rw [List.length_tail]; omega
  iterate 1 walk1
  refine cut1 (fun f s' => (f = .next ∨ (f = .brk ∧ turnN ≠ 0)) ∧ S C ((L, NsI (frW (some (.ref sl)) (some (.ref bx)) (some (.ref wa)) (some (.ref rwA)) (some (vi turnN)) kiV nuV knV trV ptV)) :: (clW L (some (.ref duA)) (some (.ref ha)) (some (.ref r.hr)) naV roV feV (some (vi F)) (some (.ref seenA)) (some (.ref tbA)) ++ ((bx, ListI (xs.map vi)) :: (tbA, ListI (t.map vi)) :: (rwA, ListI (roL rows)) :: tl))) s') ?_ ?_
  · intro QC hQC
    repeat' walk1
    · refine hQC _ _ ⟨.inr ⟨rfl, ?_⟩, S.tkTo H rfl rfl rfl⟩
      omega
    all_goals exact hQC _ _ ⟨.inl rfl, S.tkTo H rfl rfl rfl⟩
  rintro f s ⟨rfl | ⟨rfl, hb⟩, H⟩
  rotate_left
  · exact hQb hb _ H
  simp only [List.cons_append, List.nil_append] at H
  repeat' walk1
  refine item_str_fmod (by decide) (by decide) (by decide) fun _ => ?_
  obtain ⟨name, hnm, hna⟩ : ∃ n, Txt.item "abc" ((xs.tail.headD 0).fmod 3) = n ∧ n ∈ abc := ⟨_, rfl, by
    have h0 : 0 ≤ (xs.tail.headD 0).fmod 3 ∧ (xs.tail.headD 0).fmod 3 < 3 := by rw [fmod_nn (by decide)]; omega
    obtain ⟨i, hi⟩ : ∃ i : Nat, (xs.tail.headD 0).fmod 3 = (i : Int) := ⟨((xs.tail.headD 0).fmod 3).toNat, by omega⟩
    rw [hi]
    exact abc_item i (by omega)⟩
  rw [hnm]
  obtain ⟨kind, hk, hk0⟩ : ∃ k, (xs.headD 0).fmod 5 = k ∧ (0 ≤ k ∧ k < 5) := ⟨_, rfl, by rw [fmod_nn (by decide)]; omega⟩
  rw [hk] at H
  generalize xs.tail.headD 0 = num at *
  generalize xs.tail.tail = xs' at *
  iterate 2 walk1
  refine lc_assign rfl rfl rfl (by decide) ?_
  iterate 2 walk1
  rename_i it hit
  have hlen : (roL rows).length = rows.length := List.length_map _
  refine lc_go1 (nx_list rwA (roL rows) hit) hA1.hd (fun i ys l => ys = (rows.take i).map (fun r => vs r.name) ∧ l = (L, NsI (frW (some (.ref sl)) (some (.ref bx)) (some (.ref wa)) (some (.ref rwA)) (some (vi turnN)) (some (vi kind)) (some (vi num)) knV trV ptV)) :: (clW L (some (.ref duA)) (some (.ref ha)) (some (.ref r.hr)) (some (vs name)) roV feV (some (vi F)) (some (.ref seenA)) (some (.ref tbA)) ++ ((bx, ListI (xs'.map vi)) :: (tbA, ListI (t.map vi)) :: (rwA, ListI (roL rows)) :: tl))) ?_ (by decide) rfl rfl (by omega) (fun Q' E' its' s' H' h' => self_list H' h') ⟨rfl, rfl⟩ H ?_ ?_
  · rintro i ys l p q ⟨_, rfl⟩
    walk_at "mb"
  · rintro i v ys l cf D s E' hi ⟨X, hX, he⟩ ⟨rfl, rfl⟩ hyl H QI hQI
    obtain ⟨hi', rfl, hri'⟩ := ro_at hri hi hX he
    have hstep : rows.take (i + 1) = rows.take i ++ [rows[i]] := by rw [List.take_add_one, List.getElem?_eq_getElem hi']; rfl
    simp only [List.cons_append, List.nil_append] at H
    repeat' walk1
    refine hQI _ _ _ ⟨?_, rfl⟩ (S.tkTo H rfl rfl rfl)
    rw [hstep, List.map_append]; rfl
  · rintro ys l cf X D s ⟨rfl, rfl⟩ hyl hcf H
    rw [List.take_of_length_le (by omega)] at H
    simp only [List.cons_append, List.nil_append] at H
    refine post_local (L := L) H hcf rfl rfl rfl (.tail _ (.head _)) (by walk_at "pu") (by walk_at "up") fun s H => ?_
    exact hQ kind num name xs' D s hx2 hk0 hna H



noncomputable def ifB (l : List Stmt) : List Stmt := match l with | .If _ b _ _ :: _ => b | _ => []
noncomputable def ifE (l : List Stmt) : List Stmt := match l with | .If _ _ b _ :: _ => b | _ => []
/-- a node comes -/
theorem segB1 (w : World) (C : Cx) (hB : Bs PP w (hK w.params) gl C) (fa L sl : Addr)
   (nm : Str) (ps : Arguments) (body : List Stmt) (ds : List Expr) (rt : Option Expr) (tp : List TypeParam) (sc : Scope) (ts : Option Scope) (bd : Str) (pos : Pos) (hf : f1 11 = .FunctionDef nm ps body ds rt tp sc ts bd pos) (doc pm : Value)
   (F : Int) (hF : 1 ≤ F ∧ F ≤ 100) (xs : List Int) (hx : xs.length ≤ 63) (bx ha c' wa c2 tbA rwA duA seenA : Addr) (fd fd2 : FuncData) (q q2 : Str) (r : Rg) (t : List Int) (ht : t.length = 3) (htb : ∀ x ∈ t, 1 ≤ x ∧ x ≤ 4) (rows : List Ro) (hro : ∀ r ∈ rows, RoOk r) (hrl : rows.length ≤ 3)
   (tab : Array Value) (itA : Addr) (itP : Obj → Prop) (hh : HOk w C ha (choIts ha (L + 7) c' F fd) (choH F) choDom) (hw : ∀ t : List Int, t.length = 3 → WOk w C wa (wsOf wa c2 seenA tbA (L + 8) (L + 9) t fd2) seenA (tabAt t) domW) (hq : q = fd.qualname) (hq2 : q2 = fd2.qualname)
   (st : RS) (l5 : L5 F st rows) (d g : List (Addr × Cf)) (hdg : d.map (·.2) = g.map (·.2)) (hgl : g.length ≤ 900)
   (turnN kind num : Int) (name : Str) (hna : name ∈ abc) (knA : Addr) (trV ptV roV feV : Option Value)
   (A : Around) (s : Shared) (Q : Flow → Shared → Prop) (E : Value → Shared → Prop) (hA : Rm A 60 200)
   (H : S C ((knA, ListI (rows.map fun r => vs r.name)) :: ((L, NsI (frW (some (.ref sl)) (some (.ref bx)) (some (.ref wa)) (some (.ref rwA)) (some (vi turnN)) (some (vi kind)) (some (vi num)) (some (.ref knA)) trV ptV)) :: (clW L (some (.ref duA)) (some (.ref ha)) (some (.ref r.hr)) (some (vs name)) roV feV (some (vi F)) (some (.ref seenA)) (some (.ref tbA)) ++ ((bx, ListI (xs.map vi)) :: (tbA, ListI (t.map vi)) :: (rwA, ListI (roL rows)) :: (ha, FnI fd) :: (c', CodeI q) :: (wa, FnI fd2) :: (c2, CodeI q2) :: (89, TabI #[]) :: (403, TabI tab) :: (itA, itP) :: (duA, ListI ((d).map fun p => .ref p.1)) :: (roIts rows ++ (dT (d) ++ (rgIts w ha wa r st ++ toldIts seenA g))))))) s)
   (hQ : ∀ (f0 : Ro) (x : Bool) (trA tp : Addr) (st' : RS) (g' : List (Addr × Cf)) s', RoOk f0 → tabAt t f0.cf = f0.wt → L5 F st' (setRo rows f0) → g'.map (·.2) = g.map (·.2) ++ [cfT f0 x] →
     S C ((f0.ad, ListI f0.vals) :: (knA, ListI (rows.map fun r => vs r.name)) :: ((L, NsI (frW (some (.ref sl)) (some (.ref bx)) (some (.ref wa)) (some (.ref rwA)) (some (vi turnN)) (some (vi kind)) (some (vi num)) (some (.ref knA)) (some (.ref trA)) ptV)) :: (clW L (some (.ref duA)) (some (.ref ha)) (some (.ref r.hr)) (some (vs f0.name)) roV (some (.ref f0.ad)) (some (vi F)) (some (.ref seenA)) (some (.ref tbA)) ++ ((bx, ListI (xs.map vi)) :: (tbA, ListI (t.map vi)) :: (rwA, ListI (roL rows)) :: (ha, FnI fd) :: (c', CodeI q) :: (wa, FnI fd2) :: (c2, CodeI q2) :: (89, TabI #[]) :: (403, TabI tab) :: (itA, itP) :: (duA, ListI ((d ++ [(tp, cfT f0 x)]).map fun p => .ref p.1)) :: (roIts rows ++ (dT (d ++ [(tp, cfT f0 x)]) ++ (rgIts w ha wa r st' ++ toldIts seenA g'))))))) s' → wpAny (model PP w) A (execs ((ifB ((forBody (body.drop 9)).drop 5)).drop 6) (lenv fa L nm ps body sc doc pm (.ref 405))) Q E s') :
   wpAny (model PP w) A (execs (ifB ((forBody (body.drop 9)).drop 5)) (lenv fa L nm ps body sc doc pm (.ref 405))) Q E s := by
  cases hf
  have hA1 := hA
  refine (show (let env : Env := lenv fa L _ _ _ _ doc pm (.ref 405); wpAny (model PP w) A (execs (_ :: _) env) Q E s) from ?_)
  intro env
  simp only [List.cons_append, List.nil_append] at H
  obtain ⟨Z, hZ⟩ : ∃ Z, Z = (rwA, ListI (roL rows)) :: (ha, FnI fd) :: (c', CodeI q) :: (wa, FnI fd2) :: (c2, CodeI q2) :: (89, TabI #[]) :: (403, TabI tab) :: (itA, itP) :: (duA, ListI ((d).map fun p => .ref p.1)) :: (roIts rows ++ (dT (d) ++ (rgIts w ha wa r st ++ toldIts seenA g))) := ⟨_, rfl⟩
  rw [← hZ] at H
  repeat' walk1
  obtain ⟨b, hb, hb0⟩ : ∃ b, (num.fdiv 18).fmod 2 = b ∧ (b = 0 ∨ b = 1) := ⟨_, rfl, by rw [fmod_nn (by decide)]; omega⟩
  rw [hb]
  refine r_str_int (by rcases hb0 with rfl | rfl <;> decide) fun _ => ?_
  iterate 1 walk1
  obtain ⟨host, hho, hok⟩ : ∃ x, Str.ofString "host " ++ Str.ofString (toString b) = x ∧ PySem.PyData.strOk x = true := ⟨_, rfl, by rcases hb0 with rfl | rfl <;> decide +kernel⟩
  rw [hho]
  repeat' walk1
  obtain ⟨ch, hch⟩ := abc_one name hna
  refine r_ord hch fun _ => ?_
  obtain ⟨v, hv, hv0⟩ : ∃ v, 1 + (num.fdiv 3).fmod 2 = v ∧ (1 ≤ v ∧ v ≤ 2) := ⟨_, rfl, by rw [fmod_nn (by decide)]; omega⟩
  obtain ⟨p, hp, hp0⟩ : ∃ p, (num.fdiv 6).fmod 3 = p ∧ (0 ≤ p ∧ p ≤ 2) := ⟨_, rfl, by rw [fmod_nn (by decide)]; omega⟩
  rw [hv, hp] at H
  repeat' walk1
  have hta := tab_at ht (chp name 0 + p + v)
  refine sub_list (by walk_at "st") (by walk_at "mb") hta.1 hta.2.1 hta.2.2 (by walk_at "wr") ?_
  refine Ret.int fun _ => ?_
  obtain ⟨wt, hwt, hwt0⟩ : ∃ x, (t[((chp name 0 + p + v) % 3).toNat]?).getD 0 = x ∧ (1 ≤ x ∧ x ≤ 4) := ⟨_, rfl, tab_b ht htb _⟩
  rw [hwt]
  iterate 28 walk1
  obtain ⟨trA, feA, H⟩ : ∃ trA feA, S C ((trA, DictI (sk PP w) [("vnodes", vi v), ("port", vi p), ("hostname", vs host)] none) :: (feA, ListI [vs name, vi v, vi p, vi wt, vs host]) :: (knA, ListI (rows.map fun r => vs r.name)) :: ((L, NsI (frW (some (.ref sl)) (some (.ref bx)) (some (.ref wa)) (some (.ref rwA)) (some (vi turnN)) (some (vi kind)) (some (vi num)) (some (.ref knA)) (some (.ref trA)) ptV)) :: (clW L (some (.ref duA)) (some (.ref ha)) (some (.ref r.hr)) (some (vs name)) roV (some (.ref feA)) (some (vi F)) (some (.ref seenA)) (some (.ref tbA)) ++ ((bx, ListI (xs.map vi)) :: (tbA, ListI (t.map vi)) :: Z)))) s := ⟨_, _, H⟩
  have hft : tabAt t (⟨vs host, .none, name, vi p, v, wt⟩ : Cf) = wt := hwt
  clear hwt hta
  obtain ⟨f0, e1, e2, e3, e4, e5, e6⟩ : ∃ f0 : Ro, f0.ad = feA ∧ f0.name = name ∧ f0.v = v ∧ f0.port = p ∧ f0.wt = wt ∧ f0.host = host := ⟨⟨feA, name, v, p, wt, host⟩, rfl, rfl, rfl, rfl, rfl, rfl⟩
  subst e1 e2 e3 e4 e5 e6
  have hf0 : RoOk f0 := ⟨hna, ⟨hv0.1, hv0.2, hp0.1, hp0.2, hwt0.1, hwt0.2⟩, hok⟩
  have hft : tabAt t f0.cf = f0.wt := hft
  clear hho hv hp
  refine cut1 (fun f s' => f = .next ∧ ∃ x : Bool, S C ((trA, DictI (sk PP w) (rowK f0 x) none) :: (f0.ad, ListI f0.vals) :: (knA, ListI (rows.map fun r => vs r.name)) :: ((L, NsI (frW (some (.ref sl)) (some (.ref bx)) (some (.ref wa)) (some (.ref rwA)) (some (vi turnN)) (some (vi kind)) (some (vi num)) (some (.ref knA)) (some (.ref trA)) ptV)) :: (clW L (some (.ref duA)) (some (.ref ha)) (some (.ref r.hr)) (some (vs f0.name)) roV (some (.ref f0.ad)) (some (vi F)) (some (.ref seenA)) (some (.ref tbA)) ++ ((bx, ListI (xs.map vi)) :: (tbA, ListI (t.map vi)) :: Z)))) s') ?_ ?_
  · intro QC hQC
    repeat' walk1
    · exact hQC _ _ ⟨rfl, true, H⟩
    · exact hQC _ _ ⟨rfl, false, S.tkTo H rfl rfl rfl⟩
  rintro f s ⟨rfl, x, H⟩
  rw [hZ] at H
  simp only [List.cons_append, List.nil_append] at H
  repeat' walk1
  have H := H.perm (perm5 (X := [_, _, _, _, _, _, _, _, _, _, _, _, _, _, _, _, _, _, _, _, _, _, _, _]))
  simp only [List.cons_append, List.nil_append] at H
  refine law_add hB hF l5 hh (hw t ht) (by omega) f0 hf0 hft x (hA1.le (by decide) (by decide)) (fun p hp => ?_) (fun p hp => ?_) (by walk_at "mb") (S.tkTo H rfl rfl rfl) fun st' g' s l5' hg' H => ?_
  · rcases List.mem_cons.mp hp with rfl | hp
    · walk_at "mb"
    rcases List.mem_cons.mp hp with rfl | hp
    · rw [← hq]; walk_at "mb"
    rw [List.mem_singleton] at hp; subst hp
    walk_at "mb"
  · rcases List.mem_cons.mp hp with rfl | hp
    · walk_at "mb"
    rcases List.mem_cons.mp hp with rfl | hp
    · rw [← hq2]; walk_at "mb"
    rcases List.mem_cons.mp hp with rfl | hp
    · walk_at "mb"
    rcases List.mem_cons.mp hp with rfl | hp
    · walk_at "mb"
    rw [List.mem_singleton] at hp; subst hp
    walk_at "mb"
  have H := H.perm (perm5 (X := [_, _, _, _, _, _, _, _, _, _, _, _, _, _, _, _, _, _, _, _, _, _, _, _])).symm
  simp only [List.cons_append, List.nil_append] at H
  repeat' walk1
  refine get_row (S.tkTo H rfl rfl rfl) (by walk_at "mb") fun v s hev H => ?_
  have hdl : (d.map fun p => Value.ref p.1).length ≤ 1000000 := by
    have := congrArg List.length hdg
    rw [List.length_map, List.length_map] at this
    rw [List.length_map]; omega
  iterate 4 walk1
  obtain ⟨tp, H⟩ : ∃ tp, S C ([(f0.ad, ListI f0.vals), (knA, ListI (rows.map fun r => vs r.name)), (L, NsI (frW (some (.ref sl)) (some (.ref bx)) (some (.ref wa)) (some (.ref rwA)) (some (vi turnN)) (some (vi kind)) (some (vi num)) (some (.ref knA)) (some (.ref trA)) ptV)), (L + 9, CellI (some (.ref tbA))), (L + 8, CellI (some (.ref seenA))), (L + 7, CellI (some (vi F))), (L + 6, CellI (some (.ref f0.ad))), (L + 5, CellI roV), (L + 4, CellI (some (vs f0.name))), (L + 3, CellI (some (.ref r.hr))), (L + 2, CellI (some (.ref ha))), (L + 1, CellI (some (.ref duA))), (bx, ListI (xs.map vi)), (tbA, ListI (t.map vi)), (rwA, ListI (roL rows)), (ha, FnI fd), (c', CodeI q), (wa, FnI fd2), (c2, CodeI q2), (89, TabI #[]), (403, TabI tab), (itA, itP), (duA, ListI (d.map (fun p => .ref p.1) ++ [.ref tp]))] ++ ((tp, TupI (tupC (cfT f0 x))) :: (roIts rows ++ (dT d ++ (rgIts w ha wa r st' ++ toldIts seenA g'))))) s :=
    ⟨_, S.pick (ps := [(f0.ad, _), (knA, _), (L, _), (L + 9, _), (L + 8, _), (L + 7, _), (L + 6, _), (L + 5, _), (L + 4, _), (L + 3, _), (L + 2, _), (L + 1, _), (bx, _), (tbA, _), (rwA, _), (ha, _), (c', _), (wa, _), (c2, _), (89, _), (403, _), (itA, _), (duA, _)]) H (by walk_at "pick") (by walk_at "sub")⟩
  have H := S.dtB H
  have ed : (d ++ [(tp, cfT f0 x)]).map (fun p => Value.ref p.1) = d.map (fun p => .ref p.1) ++ [.ref tp] := List.map_append
  rw [← ed] at H
  exact hQ f0 x trA tp st' g' s hf0 hft l5' hg' (S.tkTo H rfl rfl rfl)



theorem stl_names : ∀ rows : List Ro, StL (rows.map fun r => vs r.name) (rows.map (·.name))
  | [] => .nil
  | _ :: rows => .cons (stl_names rows)
/-- the row takes its place -/
theorem segB2 (w : World) (C : Cx) (hB : Bs PP w (hK w.params) gl C) (fa L sl : Addr)
   (nm : Str) (ps : Arguments) (body : List Stmt) (ds : List Expr) (rt : Option Expr) (tp : List TypeParam) (sc : Scope) (ts : Option Scope) (bd : Str) (pos : Pos) (hf : f1 11 = .FunctionDef nm ps body ds rt tp sc ts bd pos) (doc pm : Value)
   (F : Int) (hF : 1 ≤ F ∧ F ≤ 100) (xs : List Int) (hx : xs.length ≤ 63) (bx ha c' wa c2 tbA rwA duA seenA : Addr) (fd fd2 : FuncData) (q q2 : Str) (r : Rg) (t : List Int) (ht : t.length = 3) (htb : ∀ x ∈ t, 1 ≤ x ∧ x ≤ 4) (rows : List Ro) (hro : ∀ r ∈ rows, RoOk r) (hrl : rows.length ≤ 3)
   (turnN kind num : Int) (name : Str) (hna : name ∈ abc) (knA : Addr) (trV ptV roV feV : Option Value) (tl : List Item) (hri : ∀ p ∈ roIts rows, p ∈ tl) (f0 : Ro) (hf0 : f0.name ∈ abc) (hnd : (rows.map (·.name)).Nodup)
   (A : Around) (s : Shared) (Q : Flow → Shared → Prop) (E : Value → Shared → Prop) (hA : Rm A 60 200)
   (H : S C ((f0.ad, ListI f0.vals) :: (knA, ListI (rows.map fun r => vs r.name)) :: ((L, NsI (frW (some (.ref sl)) (some (.ref bx)) (some (.ref wa)) (some (.ref rwA)) (some (vi turnN)) (some (vi kind)) (some (vi num)) (some (.ref knA)) trV ptV)) :: (clW L (some (.ref duA)) (some (.ref ha)) (some (.ref r.hr)) (some (vs f0.name)) roV (some (.ref f0.ad)) (some (vi F)) (some (.ref seenA)) (some (.ref tbA)) ++ ((bx, ListI (xs.map vi)) :: (tbA, ListI (t.map vi)) :: (rwA, ListI (roL rows)) :: tl)))) s)
   (hQ : ∀ (D : Addr) s', S C ((D, ListI (roL (setRo rows f0))) :: (f0.ad, ListI f0.vals) :: (knA, ListI (rows.map fun r => vs r.name)) :: ((L, NsI (frW (some (.ref sl)) (some (.ref bx)) (some (.ref wa)) (some (.ref D)) (some (vi turnN)) (some (vi kind)) (some (vi num)) (some (.ref knA)) trV ptV)) :: (clW L (some (.ref duA)) (some (.ref ha)) (some (.ref r.hr)) (some (vs f0.name)) roV (some (.ref f0.ad)) (some (vi F)) (some (.ref seenA)) (some (.ref tbA)) ++ ((bx, ListI (xs.map vi)) :: (tbA, ListI (t.map vi)) :: (rwA, ListI (roL rows)) :: tl)))) s' → Q .next s') :
   wpAny (model PP w) A (execs ((ifB ((forBody (body.drop 9)).drop 5)).drop 6) (lenv fa L nm ps body sc doc pm (.ref 405))) Q E s := by
  cases hf
  have hA1 := hA
  refine (show (let env : Env := lenv fa L _ _ _ _ doc pm (.ref 405); wpAny (model PP w) A (execs (_ :: _) env) Q E s) from ?_)
  intro env
  simp only [List.cons_append, List.nil_append] at H
  iterate 2 walk1
  refine cut1 (fun v s' => ∃ D, v = .ref D ∧ S C ((D, ListI (roL (setRo rows f0))) :: (f0.ad, ListI f0.vals) :: (knA, ListI (rows.map fun r => vs r.name)) :: ((L, NsI (frW (some (.ref sl)) (some (.ref bx)) (some (.ref wa)) (some (.ref rwA)) (some (vi turnN)) (some (vi kind)) (some (vi num)) (some (.ref knA)) trV ptV)) :: (clW L (some (.ref duA)) (some (.ref ha)) (some (.ref r.hr)) (some (vs f0.name)) roV (some (.ref f0.ad)) (some (vi F)) (some (.ref seenA)) (some (.ref tbA)) ++ ((bx, ListI (xs.map vi)) :: (tbA, ListI (t.map vi)) :: (rwA, ListI (roL rows)) :: tl)))) s') ?_ ?_
  · intro QC hQC
    iterate 4 walk1
    have hany : (rows.map (·.name)).any (· == f0.name) = (rows.map (·.name)).contains f0.name := by
      rw [Bool.eq_iff_iff, List.any_eq_true, List.contains_iff_mem]
      exact ⟨fun ⟨y, h1, h2⟩ => (beq_iff_eq.mp h2) ▸ h1, fun h => ⟨_, h, beq_self_eq_true _⟩⟩
    refine r_in_strs (b := (rows.map (·.name)).contains f0.name) (ys := rows.map (·.name)) (by walk_at "st") (by walk_at "mb") (stl_names rows) hany ?_
    cases hin : (rows.map (·.name)).contains f0.name with
    | true =>
      iterate 2 walk1
      have hset : setRo rows f0 = rows.map (fun r => if r.name = f0.name then f0 else r) := by unfold setRo; rw [if_pos hin]
      refine lc_eval (cl := [("name", L + 4), ("fresh", L + 6)]) rfl rfl (by decide) ?_
      iterate 2 walk1
      rename_i it hit
      have hlen : (roL rows).length = rows.length := List.length_map _
      refine lc_go1 (nx_list rwA (roL rows) hit) hA1.hd (fun i ys l => ys = roL ((rows.take i).map (fun r => if r.name = f0.name then f0 else r)) ∧ l = (f0.ad, ListI f0.vals) :: (knA, ListI (rows.map fun r => vs r.name)) :: ((L, NsI (frW (some (.ref sl)) (some (.ref bx)) (some (.ref wa)) (some (.ref rwA)) (some (vi turnN)) (some (vi kind)) (some (vi num)) (some (.ref knA)) trV ptV)) :: (clW L (some (.ref duA)) (some (.ref ha)) (some (.ref r.hr)) (some (vs f0.name)) roV (some (.ref f0.ad)) (some (vi F)) (some (.ref seenA)) (some (.ref tbA)) ++ ((bx, ListI (xs.map vi)) :: (tbA, ListI (t.map vi)) :: (rwA, ListI (roL rows)) :: tl)))) ?_ (by decide) rfl rfl (by omega) (fun Q' E' its' s' H' h' => self_list H' h') ⟨rfl, rfl⟩ H ?_ ?_
      · rintro i ys l p q ⟨_, rfl⟩
        walk_at "mb"
      · rintro i v ys l cf D s E' hi ⟨X, hX, he⟩ ⟨rfl, rfl⟩ hyl H QI hQI
        obtain ⟨hi', rfl, hri'⟩ := ro_at hri hi hX he
        have hstep : rows.take (i + 1) = rows.take i ++ [rows[i]] := by rw [List.take_add_one, List.getElem?_eq_getElem hi']; rfl
        simp only [List.cons_append, List.nil_append] at H
        have hy : ∀ Z : Ro, Z = (if rows[i].name = f0.name then f0 else rows[i]) → roL ((rows.take i).map (fun r => if r.name = f0.name then f0 else r)) ++ [.ref Z.ad] = roL ((rows.take (i + 1)).map (fun r => if r.name = f0.name then f0 else r)) := fun Z hZ => by
          rw [hstep, List.map_append, List.map_cons, ← hZ]; unfold roL; rw [List.map_append]; rfl
        repeat' walk1
        · exact hQI _ _ _ ⟨hy f0 (by rw [if_pos (beq_iff_eq.mp (by assumption))]), rfl⟩ (S.tkTo H rfl rfl rfl)
        · exact hQI _ _ _ ⟨hy rows[i] (by rw [if_neg (beq_eq_false_iff_ne.mp (by assumption))]), rfl⟩ (S.tkTo H rfl rfl rfl)
      · rintro ys l cf X D s ⟨rfl, rfl⟩ hyl hcf H
        refine post_none H hcf fun s H => ?_
        rw [List.take_of_length_le (by omega), ← hset] at H
        exact hQC _ _ ⟨D, rfl, H⟩
    | false =>
      have hset : setRo rows f0 = rows ++ [f0] := by unfold setRo; rw [if_neg (by rw [hin]; exact Bool.false_ne_true)]
      iterate 9 walk1
      refine r_add_lists (S.tkTo H rfl rfl rfl) (by walk_at "mb") (by walk_at "mb") (by have : (roL rows).length = rows.length := List.length_map _; rw [this]; simp; omega) fun D s H => ?_
      refine hQC _ _ ⟨D, rfl, ?_⟩
      rw [hset, show roL (rows ++ [f0]) = roL rows ++ [.ref f0.ad] by unfold roL; rw [List.map_append]; rfl]
      exact S.pick (ps := [(D, _)]) H (by walk_at "pick") (by walk_at "sub")
  rintro v s ⟨D, rfl, H⟩
  simp only [List.cons_append, List.nil_append] at H
  repeat' walk1
  exact hQ D _ H



theorem rmRo_step {rows : List Ro} {i : Nat} (hi : i < rows.length) (name : Str) : rmRo (rows.take (i + 1)) name = rmRo (rows.take i) name ++ if rows[i].name ≠ name then [rows[i]] else [] := by
  have hstep : rows.take (i + 1) = rows.take i ++ [rows[i]] := by rw [List.take_add_one, List.getElem?_eq_getElem hi]; rfl
  rw [hstep]
  unfold rmRo
  rw [List.filter_append]
  congr 1
  by_cases h : rows[i].name = name
  · rw [if_neg (fun q => q h), List.filter_cons, if_neg (by simp [h])]; rfl
  · rw [if_pos h, List.filter_cons, if_pos (by simp [h])]; rfl
theorem roIts_rm (rows : List Ro) (name : Str) : (roIts (rmRo rows name)).Sublist (roIts rows) := by unfold roIts rmRo; exact List.filter_sublist.map _
/-- a node goes -/
theorem segB3 (w : World) (C : Cx) (hB : Bs PP w (hK w.params) gl C) (fa L sl : Addr)
   (nm : Str) (ps : Arguments) (body : List Stmt) (ds : List Expr) (rt : Option Expr) (tp : List TypeParam) (sc : Scope) (ts : Option Scope) (bd : Str) (pos : Pos) (hf : f1 11 = .FunctionDef nm ps body ds rt tp sc ts bd pos) (doc pm : Value)
   (F : Int) (hF : 1 ≤ F ∧ F ≤ 100) (xs : List Int) (hx : xs.length ≤ 63) (bx ha c' wa c2 tbA rwA duA seenA : Addr) (fd fd2 : FuncData) (q q2 : Str) (r : Rg) (t : List Int) (ht : t.length = 3) (htb : ∀ x ∈ t, 1 ≤ x ∧ x ≤ 4) (rows : List Ro) (hro : ∀ r ∈ rows, RoOk r) (hrl : rows.length ≤ 3)
   (tab : Array Value) (itA : Addr) (itP : Obj → Prop) (hh : HOk w C ha (choIts ha (L + 7) c' F fd) (choH F) choDom) (hw : ∀ t : List Int, t.length = 3 → WOk w C wa (wsOf wa c2 seenA tbA (L + 8) (L + 9) t fd2) seenA (tabAt t) domW) (hq : q = fd.qualname) (hq2 : q2 = fd2.qualname)
   (st : RS) (l5 : L5 F st rows) (d g : List (Addr × Cf)) (hdg : d.map (·.2) = g.map (·.2)) (hgl : g.length ≤ 900)
   (turnN kind num : Int) (name : Str) (hna : name ∈ abc) (knA : Addr) (trV ptV roV feV : Option Value) (hin : name ∈ rows.map (·.name))
   (A : Around) (s : Shared) (Q : Flow → Shared → Prop) (E : Value → Shared → Prop) (hA : Rm A 60 200)
   (H : S C ((knA, ListI (rows.map fun r => vs r.name)) :: ((L, NsI (frW (some (.ref sl)) (some (.ref bx)) (some (.ref wa)) (some (.ref rwA)) (some (vi turnN)) (some (vi kind)) (some (vi num)) (some (.ref knA)) trV ptV)) :: (clW L (some (.ref duA)) (some (.ref ha)) (some (.ref r.hr)) (some (vs name)) roV feV (some (vi F)) (some (.ref seenA)) (some (.ref tbA)) ++ ((bx, ListI (xs.map vi)) :: (tbA, ListI (t.map vi)) :: (rwA, ListI (roL rows)) :: (ha, FnI fd) :: (c', CodeI q) :: (wa, FnI fd2) :: (c2, CodeI q2) :: (89, TabI #[]) :: (403, TabI tab) :: (itA, itP) :: (duA, ListI ((d).map fun p => .ref p.1)) :: (roIts rows ++ (dT (d) ++ (rgIts w ha wa r st ++ toldIts seenA g))))))) s)
   (hQ : ∀ (D : Addr) (st' : RS) s', L5 F st' (rmRo rows name) →
     S C ((L, NsI (frW (some (.ref sl)) (some (.ref bx)) (some (.ref wa)) (some (.ref D)) (some (vi turnN)) (some (vi kind)) (some (vi num)) (some (.ref knA)) trV ptV)) :: (clW L (some (.ref duA)) (some (.ref ha)) (some (.ref r.hr)) (some (vs name)) roV feV (some (vi F)) (some (.ref seenA)) (some (.ref tbA)) ++ ((bx, ListI (xs.map vi)) :: (tbA, ListI (t.map vi)) :: (D, ListI (roL (rmRo rows name))) :: (ha, FnI fd) :: (c', CodeI q) :: (wa, FnI fd2) :: (c2, CodeI q2) :: (89, TabI #[]) :: (403, TabI tab) :: (itA, itP) :: (duA, ListI ((d).map fun p => .ref p.1)) :: (roIts (rmRo rows name) ++ (dT (d) ++ (rgIts w ha wa r st' ++ toldIts seenA g)))))) s' → Q .next s') :
   wpAny (model PP w) A (execs (ifB (ifE ((forBody (body.drop 9)).drop 5))) (lenv fa L nm ps body sc doc pm (.ref 405))) Q E s := by
  cases hf
  have hA1 := hA
  refine (show (let env : Env := lenv fa L _ _ _ _ doc pm (.ref 405); wpAny (model PP w) A (execs (_ :: _) env) Q E s) from ?_)
  intro env
  simp only [List.cons_append, List.nil_append] at H
  repeat' walk1
  have H := H.perm (perm5 (X := [_, _, _, _, _, _, _, _, _, _, _, _, _, _, _, _, _, _, _, _, _, _]))
  simp only [List.cons_append, List.nil_append] at H
  refine law_rm hB hF l5 (hA1.le (by decide) (by decide)) hin (S.tkTo H rfl rfl rfl) fun st' s l5' H => ?_
  have H := H.perm (perm5 (X := [_, _, _, _, _, _, _, _, _, _, _, _, _, _, _, _, _, _, _, _, _, _])).symm
  simp only [List.cons_append, List.nil_append] at H
  iterate 1 walk1
  have hri : ∀ p ∈ roIts rows, p ∈ roIts rows ++ (dT d ++ (rgIts w ha wa r st' ++ toldIts seenA g)) := fun p hp => List.mem_append_left _ hp
  have H : S C ((knA, ListI (rows.map fun r => vs r.name)) :: ((L, NsI (frW (some (.ref sl)) (some (.ref bx)) (some (.ref wa)) (some (.ref rwA)) (some (vi turnN)) (some (vi kind)) (some (vi num)) (some (.ref knA)) trV ptV)) :: (clW L (some (.ref duA)) (some (.ref ha)) (some (.ref r.hr)) (some (vs name)) roV feV (some (vi F)) (some (.ref seenA)) (some (.ref tbA)) ++ ((bx, ListI (xs.map vi)) :: (tbA, ListI (t.map vi)) :: (rwA, ListI (roL rows)) :: (ha, FnI fd) :: (c', CodeI q) :: (wa, FnI fd2) :: (c2, CodeI q2) :: (89, TabI #[]) :: (403, TabI tab) :: (itA, itP) :: (duA, ListI ((d).map fun p => .ref p.1)) :: (roIts rows ++ (dT (d) ++ (rgIts w ha wa r st' ++ toldIts seenA g))))))) s := H
  obtain ⟨Z, hZ⟩ : ∃ Z, Z = roIts rows ++ (dT d ++ (rgIts w ha wa r st' ++ toldIts seenA g)) := ⟨_, rfl⟩
  rw [← hZ] at H hri
  simp only [List.cons_append, List.nil_append] at H
  refine lc_assign rfl rfl rfl (by decide) ?_
  iterate 2 walk1
  rename_i it hit
  have hlen : (roL rows).length = rows.length := List.length_map _
  refine lc_go (nx_list rwA (roL rows) hit) hA1.hd (fun i ys l => ys = roL (rmRo (rows.take i) name) ∧ l = (knA, ListI (rows.map fun r => vs r.name)) :: ((L, NsI (frW (some (.ref sl)) (some (.ref bx)) (some (.ref wa)) (some (.ref rwA)) (some (vi turnN)) (some (vi kind)) (some (vi num)) (some (.ref knA)) trV ptV)) :: (clW L (some (.ref duA)) (some (.ref ha)) (some (.ref r.hr)) (some (vs name)) roV feV (some (vi F)) (some (.ref seenA)) (some (.ref tbA)) ++ ((bx, ListI (xs.map vi)) :: (tbA, ListI (t.map vi)) :: (rwA, ListI (roL rows)) :: (ha, FnI fd) :: (c', CodeI q) :: (wa, FnI fd2) :: (c2, CodeI q2) :: (89, TabI #[]) :: (403, TabI tab) :: (itA, itP) :: (duA, ListI (d.map fun p => .ref p.1)) :: Z)))) ?_ (by decide) rfl rfl (by omega) (fun Q' E' its' s' H' h' => self_list H' h') ⟨rfl, rfl⟩ H ?_ ?_
  · rintro i ys l p q ⟨_, rfl⟩
    walk_at "mb"
  · rintro i v ys l cf D s E' hi ⟨X, hX, he⟩ ⟨rfl, rfl⟩ hyl H
    obtain ⟨hi', rfl, hri'⟩ := ro_at hri hi hX he
    have hstep : rows.take (i + 1) = rows.take i ++ [rows[i]] := by rw [List.take_add_one, List.getElem?_eq_getElem hi']; rfl
    simp only [List.cons_append, List.nil_append] at H
    refine wpAny_tests_one ?_
    repeat' walk1
    · have hne : rows[i].name ≠ name := by have h := ‹(rows[i].name != name) = true›; simpa using h
      unfold Hide
      exact ⟨_, ⟨by rw [rmRo_step hi', if_pos hne]; unfold roL; rw [List.map_append]; rfl, rfl⟩, S.tkTo H rfl rfl rfl⟩
    · have heq : rows[i].name = name := by have h := ‹(rows[i].name != name) = false›; simpa using h
      unfold Hide
      exact ⟨_, ⟨by rw [rmRo_step hi', if_neg (fun q => q heq), List.append_nil], rfl⟩, S.tkTo H rfl rfl rfl⟩
  · rintro ys l cf X D s ⟨rfl, rfl⟩ hyl hcf H
    rw [List.take_of_length_le (by omega)] at H
    simp only [List.cons_append, List.nil_append] at H
    refine post_local (L := L) H hcf rfl rfl rfl (by walk_at "mb") (by walk_at "pu") (by walk_at "up") fun s H => ?_
    repeat' walk1
    have H : S C ([(L, NsI (frW (some (.ref sl)) (some (.ref bx)) (some (.ref wa)) (some (.ref D)) (some (vi turnN)) (some (vi kind)) (some (vi num)) (some (.ref knA)) trV ptV)), (L + 9, CellI (some (.ref tbA))), (L + 8, CellI (some (.ref seenA))), (L + 7, CellI (some (vi F))), (L + 6, CellI feV), (L + 5, CellI roV), (L + 4, CellI (some (vs name))), (L + 3, CellI (some (.ref r.hr))), (L + 2, CellI (some (.ref ha))), (L + 1, CellI (some (.ref duA))), (bx, ListI (xs.map vi)), (tbA, ListI (t.map vi)), (D, ListI (roL (rmRo rows name))), (ha, FnI fd), (c', CodeI q), (wa, FnI fd2), (c2, CodeI q2), (89, TabI #[]), (403, TabI tab), (itA, itP), (duA, ListI (d.map fun p => .ref p.1))] ++ Z) s :=
      S.pick H (by walk_at "pick") (by walk_at "sub")
    rw [hZ] at H
    have H := S.mono H (List.Sublist.append_left ((roIts_rm rows name).append_right _) _)
    exact hQ D st' s l5' H



/-- the table is turned -/
theorem segB4 (w : World) (C : Cx) (hB : Bs PP w (hK w.params) gl C) (fa L sl : Addr)
   (nm : Str) (ps : Arguments) (body : List Stmt) (ds : List Expr) (rt : Option Expr) (tp : List TypeParam) (sc : Scope) (ts : Option Scope) (bd : Str) (pos : Pos) (hf : f1 11 = .FunctionDef nm ps body ds rt tp sc ts bd pos) (doc pm : Value)
   (F : Int) (hF : 1 ≤ F ∧ F ≤ 100) (xs : List Int) (hx : xs.length ≤ 63) (bx ha c' wa c2 tbA rwA duA seenA : Addr) (fd fd2 : FuncData) (q q2 : Str) (r : Rg) (t : List Int) (ht : t.length = 3) (htb : ∀ x ∈ t, 1 ≤ x ∧ x ≤ 4) (rows : List Ro) (hro : ∀ r ∈ rows, RoOk r) (hrl : rows.length ≤ 3)
   (turnN kind num : Int) (name : Str) (knA : Addr) (trV ptV roV feV : Option Value) (tl : List Item)
   (A : Around) (s : Shared) (Q : Flow → Shared → Prop) (E : Value → Shared → Prop) (hA : Rm A 60 200)
   (H : S C ((knA, ListI (rows.map fun r => vs r.name)) :: ((L, NsI (frW (some (.ref sl)) (some (.ref bx)) (some (.ref wa)) (some (.ref rwA)) (some (vi turnN)) (some (vi kind)) (some (vi num)) (some (.ref knA)) trV ptV)) :: (clW L (some (.ref duA)) (some (.ref ha)) (some (.ref r.hr)) (some (vs name)) roV feV (some (vi F)) (some (.ref seenA)) (some (.ref tbA)) ++ ((bx, ListI (xs.map vi)) :: (tbA, ListI (t.map vi)) :: (rwA, ListI (roL rows)) :: tl)))) s)
   (hQ : ∀ (t' : List Int) s', t'.length = 3 → (∀ x ∈ t', 1 ≤ x ∧ x ≤ 4) → S C ((knA, ListI (rows.map fun r => vs r.name)) :: ((L, NsI (frW (some (.ref sl)) (some (.ref bx)) (some (.ref wa)) (some (.ref rwA)) (some (vi turnN)) (some (vi kind)) (some (vi num)) (some (.ref knA)) trV ptV)) :: (clW L (some (.ref duA)) (some (.ref ha)) (some (.ref r.hr)) (some (vs name)) roV feV (some (vi F)) (some (.ref seenA)) (some (.ref tbA)) ++ ((bx, ListI (xs.map vi)) :: (tbA, ListI (t'.map vi)) :: (rwA, ListI (roL rows)) :: tl)))) s' → Q .next s') :
   wpAny (model PP w) A (execs (ifB (ifE (ifE ((forBody (body.drop 9)).drop 5)))) (lenv fa L nm ps body sc doc pm (.ref 405))) Q E s := by
  cases hf
  have hA1 := hA
  refine (show (let env : Env := lenv fa L _ _ _ _ doc pm (.ref 405); wpAny (model PP w) A (execs (_ :: _) env) Q E s) from ?_)
  intro env
  simp only [List.cons_append, List.nil_append] at H
  iterate 17 walk1
  have hb0 : 1 ≤ 1 + (num.fdiv 3).fmod 4 ∧ 1 + (num.fdiv 3).fmod 4 ≤ 4 := by rw [fmod_nn (by decide)]; omega
  have hi0 : 0 ≤ num.fmod 3 ∧ num.fmod 3 < 3 := by rw [fmod_nn (by decide)]; omega
  have hl : (t.map vi).length = 3 := by rw [List.length_map, ht]
  refine r_setList (X := vi (1 + (num.fdiv 3).fmod 4)) (by walk_at "st") rfl (by walk_at "up") hi0.1 (by omega) (by omega) fun s H => ?_
  have e : (t.map vi).set (num.fmod 3).toNat (vi (1 + (num.fdiv 3).fmod 4)) = (t.set (num.fmod 3).toNat (1 + (num.fdiv 3).fmod 4)).map vi := by rw [List.map_set]
  rw [e] at H
  repeat' walk1
  refine hQ (t.set (num.fmod 3).toNat (1 + (num.fdiv 3).fmod 4)) _ (by rw [List.length_set, ht]) (fun x hx => ?_) H
  rcases List.mem_or_eq_of_mem_set hx with h | rfl
  · exact htb x h
  · exact hb0



theorem S.roA {C : Cx} {s : Shared} {es : List Ro} {f : Ro} {A R : List Item} (H : S C (A ++ ((f.ad, ListI f.vals) :: (roIts es ++ R))) s) : S C (A ++ (roIts (es ++ [f]) ++ R)) s := by
  have e : roIts (es ++ [f]) = roIts es ++ [(f.ad, ListI f.vals)] := by unfold roIts; rw [List.map_append]; rfl
  rw [e, List.append_assoc]
  exact H.perm (List.Perm.append_left A List.perm_middle.symm)
noncomputable def Ro.core (r : Ro) : Str × Int × Int × Int × Str := (r.name, r.v, r.port, r.wt, r.host)
theorem core_map {β : Type} (f : Ro → β) (h : ∀ a b : Ro, a.core = b.core → f a = f b) : ∀ {es rows : List Ro}, es.map Ro.core = rows.map Ro.core → es.map f = rows.map f
  | [], [], _ => rfl
  | [], _ :: _, e => by simp at e
  | _ :: _, [], e => by simp at e
  | a :: es, b :: rows, e => by
    rw [List.map_cons, List.map_cons, List.cons.injEq] at e
    rw [List.map_cons, List.map_cons, h a b e.1, core_map f h e.2]
theorem core_mem {es rows : List Ro} (e : es.map Ro.core = rows.map Ro.core) {a : Ro} (ha : a ∈ es) : ∃ b ∈ rows, a.core = b.core := by
  have := List.mem_map_of_mem (f := Ro.core) ha
  rw [e] at this
  obtain ⟨b, hb, q⟩ := List.mem_map.mp this
  exact ⟨b, hb, q.symm⟩
theorem core_inj {a b : Ro} (e : a.core = b.core) : a.name = b.name ∧ a.v = b.v ∧ a.port = b.port ∧ a.wt = b.wt ∧ a.host = b.host := by
  unfold Ro.core at e
  simpa using e
theorem L5.core {F : Int} {st : RS} {rows es : List Ro} (l : L5 F st rows) (e : es.map Ro.core = rows.map Ro.core) : L5 F st es := by
  refine ⟨l.ok, ?_, ?_, fun r hr => ?_⟩
  · have : roP es = roP rows := by
      funext n c
      apply propext
      constructor
      · rintro ⟨r, hr, rfl, rfl⟩
        obtain ⟨b, hb, q⟩ := core_mem e hr
        obtain ⟨q1, q2, _, q4, _⟩ := core_inj q
        exact ⟨b, hb, q1.symm, by unfold Ro.cnt; rw [q2, q4]⟩
      · rintro ⟨r, hr, rfl, rfl⟩
        obtain ⟨b, hb, q⟩ := core_mem e.symm hr
        obtain ⟨q1, q2, _, q4, _⟩ := core_inj q
        exact ⟨b, hb, q1.symm, by unfold Ro.cnt; rw [q2, q4]⟩
    rw [this]; exact l.mr
  · rw [l.nl]
    exact (core_map (fun r => (r.name, r.cf)) (fun a b q => by obtain ⟨q1, q2, q3, q4, q5⟩ := core_inj q; simp only [Ro.cf, q1, q2, q3, q4, q5]) e).symm
  · obtain ⟨b, hb, q⟩ := core_mem e hr
    obtain ⟨q1, q2, q3, q4, q5⟩ := core_inj q
    have := l.ro b hb
    exact ⟨by rw [q1]; exact this.nm, by rw [q2, q3, q4]; exact this.b, by rw [q5]; exact this.ho⟩
theorem perm_fin {X : Item} {R E F Dd W : List Item} : (X :: (R ++ (E ++ (F ++ (Dd ++ W))))).Perm (F ++ (X :: (R ++ ((Dd ++ E) ++ W)))) := by
  have h1 : (E ++ (F ++ (Dd ++ W))).Perm (F ++ ((Dd ++ E) ++ W)) := by
    rw [List.append_assoc]
    exact (List.perm_append_comm_assoc _ _ _).trans (List.Perm.append_left F (List.perm_append_comm_assoc _ _ _))
  refine (List.Perm.cons X ((List.Perm.append_left R h1).trans (List.perm_append_comm_assoc _ _ _))).trans ?_
  exact List.perm_middle.symm
noncomputable def CfOk (c : Cf) : Prop := ∀ v ∈ tupC c, Sk v
theorem cfok_t {r : Ro} (h : RoOk r) (x : Bool) : CfOk (cfT r x) := by
  intro v hv
  unfold tupC at hv
  rcases List.mem_cons.mp hv with rfl | hv
  · exact .inr (.inr ⟨_, rfl, abc_ok _ h.nm⟩)
  rcases List.mem_cons.mp hv with rfl | hv
  · exact .inr (.inr ⟨_, rfl, h.ho⟩)
  rcases List.mem_cons.mp hv with rfl | hv
  · exact .inl rfl
  rcases List.mem_cons.mp hv with rfl | hv
  · exact .inr (.inl ⟨_, rfl⟩)
  rcases List.mem_cons.mp hv with rfl | hv
  · exact .inr (.inl ⟨_, rfl⟩)
  rw [List.mem_singleton] at hv; subst hv
  exact .inr (.inl ⟨_, rfl⟩)
theorem cfok_ro {r : Ro} (h : RoOk r) : CfOk r.cf := by
  intro v hv
  unfold tupC at hv
  rcases List.mem_cons.mp hv with rfl | hv
  · exact .inr (.inr ⟨_, rfl, abc_ok _ h.nm⟩)
  rcases List.mem_cons.mp hv with rfl | hv
  · exact .inr (.inr ⟨_, rfl, h.ho⟩)
  rcases List.mem_cons.mp hv with rfl | hv
  · exact .inl rfl
  rcases List.mem_cons.mp hv with rfl | hv
  · exact .inr (.inl ⟨_, rfl⟩)
  rcases List.mem_cons.mp hv with rfl | hv
  · exact .inr (.inl ⟨_, rfl⟩)
  rw [List.mem_singleton] at hv; subst hv
  exact .inr (.inl ⟨_, rfl⟩)
/-- all is made anew -/
theorem segB5 (w : World) (C : Cx) (hB : Bs PP w (hK w.params) gl C) (fa L sl : Addr)
   (nm : Str) (ps : Arguments) (body : List Stmt) (ds : List Expr) (rt : Option Expr) (tp : List TypeParam) (sc : Scope) (ts : Option Scope) (bd : Str) (pos : Pos) (hf : f1 11 = .FunctionDef nm ps body ds rt tp sc ts bd pos) (doc pm : Value)
   (F : Int) (hF : 1 ≤ F ∧ F ≤ 100) (xs : List Int) (hx : xs.length ≤ 63) (bx ha c' wa c2 tbA rwA duA seenA : Addr) (fd fd2 : FuncData) (q q2 : Str) (r : Rg) (t : List Int) (ht : t.length = 3) (htb : ∀ x ∈ t, 1 ≤ x ∧ x ≤ 4) (rows : List Ro) (hro : ∀ r ∈ rows, RoOk r) (hrl : rows.length ≤ 3)
   (tab : Array Value) (itA : Addr) (itP : Obj → Prop) (hh : HOk w C ha (choIts ha (L + 7) c' F fd) (choH F) choDom) (hw : ∀ t : List Int, t.length = 3 → WOk w C wa (wsOf wa c2 seenA tbA (L + 8) (L + 9) t fd2) seenA (tabAt t) domW) (hq : q = fd.qualname) (hq2 : q2 = fd2.qualname)
   (st : RS) (l5 : L5 F st rows) (d g : List (Addr × Cf)) (hdg : d.map (·.2) = g.map (·.2)) (hgl : g.length ≤ 900)
   (turnN kind num : Int) (name : Str) (hna : name ∈ abc) (knA : Addr) (trV ptV roV feV : Option Value)
   (A : Around) (s : Shared) (Q : Flow → Shared → Prop) (E : Value → Shared → Prop) (hA : Rm A 60 200)
   (H : S C ((knA, ListI (rows.map fun r => vs r.name)) :: ((L, NsI (frW (some (.ref sl)) (some (.ref bx)) (some (.ref wa)) (some (.ref rwA)) (some (vi turnN)) (some (vi kind)) (some (vi num)) (some (.ref knA)) trV ptV)) :: (clW L (some (.ref duA)) (some (.ref ha)) (some (.ref r.hr)) (some (vs name)) roV feV (some (vi F)) (some (.ref seenA)) (some (.ref tbA)) ++ ((bx, ListI (xs.map vi)) :: (tbA, ListI (t.map vi)) :: (rwA, ListI (roL rows)) :: (ha, FnI fd) :: (c', CodeI q) :: (wa, FnI fd2) :: (c2, CodeI q2) :: (89, TabI #[]) :: (403, TabI tab) :: (itA, itP) :: (duA, ListI ((d).map fun p => .ref p.1)) :: (roIts rows ++ (dT (d) ++ (rgIts w ha wa r st ++ toldIts seenA g))))))) s)
   (hQ : ∀ (rows' : List Ro) (D : Addr) (duA' : Addr) (st' : RS) (d' g' : List (Addr × Cf)) s', L5 F st' rows' → d'.map (·.2) = g'.map (·.2) → g'.length ≤ g.length + 3 → (∀ c ∈ g'.map (·.2), c ∈ g.map (·.2) ∨ c ∈ rows.map Ro.cf) →
     S C ((L, NsI (frW (some (.ref sl)) (some (.ref bx)) (some (.ref wa)) (some (.ref D)) (some (vi turnN)) (some (vi kind)) (some (vi num)) (some (.ref knA)) trV ptV)) :: (clW L (some (.ref duA')) (some (.ref ha)) (some (.ref r.hr)) (some (vs name)) roV feV (some (vi F)) (some (.ref seenA)) (some (.ref tbA)) ++ ((bx, ListI (xs.map vi)) :: (tbA, ListI (t.map vi)) :: (D, ListI (roL rows')) :: (ha, FnI fd) :: (c', CodeI q) :: (wa, FnI fd2) :: (c2, CodeI q2) :: (89, TabI #[]) :: (403, TabI tab) :: (itA, itP) :: (duA', ListI ((d').map fun p => .ref p.1)) :: (roIts rows' ++ (dT (d') ++ (rgIts w ha wa r st' ++ toldIts seenA g')))))) s' → Q .next s') :
   wpAny (model PP w) A (execs (ifE (ifE (ifE ((forBody (body.drop 9)).drop 5)))) (lenv fa L nm ps body sc doc pm (.ref 405))) Q E s := by
  cases hf
  have hA1 := hA
  refine (show (let env : Env := lenv fa L _ _ _ _ doc pm (.ref 405); wpAny (model PP w) A (execs (_ :: _) env) Q E s) from ?_)
  intro env
  simp only [List.cons_append, List.nil_append] at H
  repeat' walk1
  have H := H.perm (perm5 (X := [_, _, _, _, _, _, _, _, _, _, _, _, _, _, _, _, _, _, _, _, _, _]))
  simp only [List.cons_append, List.nil_append] at H
  refine law_regen hB hF l5 hh (hw t ht) ht htb (by omega) (hA1.le (by decide) (by decide)) (fun p hp => ?_) (fun p hp => ?_) (S.tkTo H rfl rfl rfl) fun st' g' s l5' hg' H => ?_
  · rcases List.mem_cons.mp hp with rfl | hp
    · walk_at "mb"
    rcases List.mem_cons.mp hp with rfl | hp
    · rw [← hq]; walk_at "mb"
    rw [List.mem_singleton] at hp; subst hp
    walk_at "mb"
  · rcases List.mem_cons.mp hp with rfl | hp
    · walk_at "mb"
    rcases List.mem_cons.mp hp with rfl | hp
    · rw [← hq2]; walk_at "mb"
    rcases List.mem_cons.mp hp with rfl | hp
    · walk_at "mb"
    rcases List.mem_cons.mp hp with rfl | hp
    · walk_at "mb"
    rw [List.mem_singleton] at hp; subst hp
    walk_at "mb"
  have H := H.perm (perm5 (X := [_, _, _, _, _, _, _, _, _, _, _, _, _, _, _, _, _, _, _, _, _, _])).symm
  simp only [List.cons_append, List.nil_append] at H
  have hri : ∀ p ∈ roIts rows, p ∈ roIts rows ++ (dT d ++ (rgIts w ha wa r st' ++ toldIts seenA g')) := fun p hp => List.mem_append_left _ hp
  have H : S C ((knA, ListI (rows.map fun r => vs r.name)) :: ((L, NsI (frW (some (.ref sl)) (some (.ref bx)) (some (.ref wa)) (some (.ref rwA)) (some (vi turnN)) (some (vi kind)) (some (vi num)) (some (.ref knA)) trV ptV)) :: (clW L (some (.ref duA)) (some (.ref ha)) (some (.ref r.hr)) (some (vs name)) roV feV (some (vi F)) (some (.ref seenA)) (some (.ref tbA)) ++ ((bx, ListI (xs.map vi)) :: (tbA, ListI (t.map vi)) :: (rwA, ListI (roL rows)) :: (ha, FnI fd) :: (c', CodeI q) :: (wa, FnI fd2) :: (c2, CodeI q2) :: (89, TabI #[]) :: (403, TabI tab) :: (itA, itP) :: (duA, ListI ((d).map fun p => .ref p.1)) :: (roIts rows ++ (dT (d) ++ (rgIts w ha wa r st' ++ toldIts seenA g'))))))) s := H
  obtain ⟨Z, hZ⟩ : ∃ Z, Z = (ha, FnI fd) :: (c', CodeI q) :: (wa, FnI fd2) :: (c2, CodeI q2) :: (89, TabI #[]) :: (403, TabI tab) :: (itA, itP) :: (duA, ListI (d.map fun p => .ref p.1)) :: (roIts rows ++ (dT d ++ (rgIts w ha wa r st' ++ toldIts seenA g'))) := ⟨_, rfl⟩
  have hri : ∀ p ∈ roIts rows, p ∈ Z := fun p hp => by rw [hZ]; exact .tail _ (.tail _ (.tail _ (.tail _ (.tail _ (.tail _ (.tail _ (.tail _ (hri p hp))))))))
  have hduZ : (duA, ListI (d.map fun p => .ref p.1)) ∈ Z := by rw [hZ]; exact .tail _ (.tail _ (.tail _ (.tail _ (.tail _ (.tail _ (.tail _ (.head _)))))))
  rw [← hZ] at H
  simp only [List.cons_append, List.nil_append] at H
  iterate 4 walk1
  refine lc_eval (cl := []) rfl rfl (by decide) ?_
  iterate 2 walk1
  rename_i it hit
  have hlen : (roL rows).length = rows.length := List.length_map _
  refine lc_go1 (nx_list rwA (roL rows) hit) hA1.hd (fun i ys l => ∃ e : List (Addr × Cf), ys = e.map (fun p => .ref p.1) ∧ e.map (·.2) = (rows.take i).map Ro.cf ∧ l = dT e ++ ((knA, ListI (rows.map fun r => vs r.name)) :: ((L, NsI (frW (some (.ref sl)) (some (.ref bx)) (some (.ref wa)) (some (.ref rwA)) (some (vi turnN)) (some (vi kind)) (some (vi num)) (some (.ref knA)) trV ptV)) :: (clW L (some (.ref duA)) (some (.ref ha)) (some (.ref r.hr)) (some (vs name)) roV feV (some (vi F)) (some (.ref seenA)) (some (.ref tbA)) ++ ((bx, ListI (xs.map vi)) :: (tbA, ListI (t.map vi)) :: (rwA, ListI (roL rows)) :: Z))))) ?_ (by decide) rfl rfl (by omega) (fun Q' E' its' s' H' h' => self_list H' h') ⟨[], rfl, rfl, rfl⟩ H ?_ ?_
  · rintro i ys l p q ⟨e, _, _, rfl⟩
    walk_at "mb"
  · rintro i v ys l cf D s E' hi ⟨X, hX, he⟩ ⟨e, rfl, hec, rfl⟩ hyl H QI hQI
    obtain ⟨hi', rfl, hri'⟩ := ro_at hri hi hX he
    have hstep : rows.take (i + 1) = rows.take i ++ [rows[i]] := by rw [List.take_add_one, List.getElem?_eq_getElem hi']; rfl
    simp only [List.cons_append, List.nil_append] at H
    repeat' walk1
    rename_i tp
    refine hQI _ _ _ ⟨e ++ [(tp, rows[i].cf)], by rw [List.map_append]; rfl, by rw [List.map_append, hec, hstep, List.map_append]; rfl, rfl⟩ ?_
    exact S.dtA (A := [_, _, _]) (S.pick (ps := [(cf, _), (D, _), (it, _)]) H (by walk_at "pick") (by walk_at "sub"))
  rintro ys l cf X D s ⟨e, rfl, hec, rfl⟩ hyl hcf H
  refine post_none H hcf fun s H => ?_
  rw [List.take_of_length_le (by omega)] at hec
  have hdl : (d.map fun p => Value.ref p.1).length ≤ 1000 := by
    have := congrArg List.length hdg
    rw [List.length_map, List.length_map] at this
    rw [List.length_map]; omega
  have hel : (e.map fun p => Value.ref p.1).length ≤ 3 := by
    have := congrArg List.length hec
    rw [List.length_map, List.length_map] at this
    rw [List.length_map]; omega
  refine r_add_lists (S.tkTo H rfl rfl rfl) (by walk_at "mb") (by walk_at "mb") (by omega) fun D3 s H => ?_
  simp only [List.cons_append, List.nil_append] at H
  iterate 2 walk1
  have ede : (d ++ e).map (fun p => Value.ref p.1) = d.map (fun p => .ref p.1) ++ e.map (fun p => .ref p.1) := List.map_append
  rw [← ede] at H
  have H : S C ([(knA, ListI (rows.map fun r => vs r.name)), (L, NsI (frW (some (.ref sl)) (some (.ref bx)) (some (.ref wa)) (some (.ref rwA)) (some (vi turnN)) (some (vi kind)) (some (vi num)) (some (.ref knA)) trV ptV)), (L + 9, CellI (some (.ref tbA))), (L + 8, CellI (some (.ref seenA))), (L + 7, CellI (some (vi F))), (L + 6, CellI feV), (L + 5, CellI roV), (L + 4, CellI (some (vs name))), (L + 3, CellI (some (.ref r.hr))), (L + 2, CellI (some (.ref ha))), (L + 1, CellI (some (.ref D3))), (bx, ListI (xs.map vi)), (tbA, ListI (t.map vi)), (rwA, ListI (roL rows)), (D3, ListI ((d ++ e).map fun p => .ref p.1))] ++ (dT e ++ Z)) s := S.pick (ps := [(knA, _), (L, _), (L + 9, _), (L + 8, _), (L + 7, _), (L + 6, _), (L + 5, _), (L + 4, _), (L + 3, _), (L + 2, _), (L + 1, _), (bx, _), (tbA, _), (rwA, _), (D3, _)]) H (by walk_at "pickr") (by walk_at "sub")
  obtain ⟨Y, hY⟩ : ∃ Y, Y = dT e ++ Z := ⟨_, rfl⟩
  have hri : ∀ p ∈ roIts rows, p ∈ Y := fun p hp => by rw [hY]; exact List.mem_append_right _ (hri p hp)
  rw [← hY] at H
  simp only [List.cons_append, List.nil_append] at H
  refine lc_assign (cl := [("table", L + 9)]) rfl rfl rfl (by decide) ?_
  iterate 2 walk1
  rename_i it2 hit2
  refine lc_go1 (nx_list rwA (roL rows) hit2) hA1.hd (fun i ys l => ∃ es : List Ro, ys = roL es ∧ es.map Ro.core = ((rows.take i).map (newW t)).map Ro.core ∧ l = roIts es ++ ((knA, ListI (rows.map fun r => vs r.name)) :: ((L, NsI (frW (some (.ref sl)) (some (.ref bx)) (some (.ref wa)) (some (.ref rwA)) (some (vi turnN)) (some (vi kind)) (some (vi num)) (some (.ref knA)) trV ptV)) :: (clW L (some (.ref D3)) (some (.ref ha)) (some (.ref r.hr)) (some (vs name)) roV feV (some (vi F)) (some (.ref seenA)) (some (.ref tbA)) ++ ((bx, ListI (xs.map vi)) :: (tbA, ListI (t.map vi)) :: (rwA, ListI (roL rows)) :: (D3, ListI ((d ++ e).map fun p => .ref p.1)) :: Y))))) ?_ (by decide) rfl rfl (by omega) (fun Q' E' its' s' H' h' => self_list H' h') ⟨[], rfl, rfl, rfl⟩ H ?_ ?_
  · rintro i ys l p q ⟨e, _, _, rfl⟩
    walk_at "mb"
  · rintro i v ys l cf D s E' hi ⟨X, hX, he⟩ ⟨es, rfl, hec2, rfl⟩ hyl H QI hQI
    obtain ⟨hi', rfl, hri'⟩ := ro_at hri hi hX he
    have hstep : rows.take (i + 1) = rows.take i ++ [rows[i]] := by rw [List.take_add_one, List.getElem?_eq_getElem hi']; rfl
    simp only [List.cons_append, List.nil_append] at H
    repeat' walk1
    obtain ⟨ch, hch⟩ := abc_one _ (hro _ (List.getElem_mem hi')).nm
    refine r_ord hch fun _ => ?_
    repeat' walk1
    have hta := tab_at ht (chp rows[i].name 0 + rows[i].port + rows[i].v)
    refine sub_list (by walk_at "st") (by walk_at "mb") hta.1 hta.2.1 hta.2.2 (by walk_at "wr") ?_
    refine Ret.int fun _ => ?_
    repeat' walk1
    refine r_add_lists (S.tkTo H rfl rfl rfl) (.tail _ (.head _)) (.head _) (by simp) fun D5 s H => ?_
    refine hQI _ _ _ ⟨es ++ [⟨D5, rows[i].name, rows[i].v, rows[i].port, (t[((chp rows[i].name 0 + rows[i].port + rows[i].v) % 3).toNat]?).getD 0, rows[i].host⟩], by unfold roL; rw [List.map_append]; rfl, ?_, rfl⟩ (S.roA (A := [_, _, _]) ?_)
    · rw [List.map_append, hec2, hstep, List.map_append, List.map_append]; rfl
    · exact S.pick (ps := [(cf, _), (D, _), (it2, _), (D5, _)]) H (by walk_at "pick") (by walk_at "sub")
  rintro ys l cf X D s ⟨es, rfl, hec2, rfl⟩ hyl hcf H
  rw [List.take_of_length_le (by omega)] at hec2
  simp only [List.cons_append, List.nil_append] at H
  refine post_local (L := L) H hcf rfl rfl rfl (by walk_at "mb") (by walk_at "pu") (by walk_at "up") fun s H => ?_
  repeat' walk1
  have H : S C ([(L, NsI (frW (some (.ref sl)) (some (.ref bx)) (some (.ref wa)) (some (.ref D)) (some (vi turnN)) (some (vi kind)) (some (vi num)) (some (.ref knA)) trV ptV)), (L + 9, CellI (some (.ref tbA))), (L + 8, CellI (some (.ref seenA))), (L + 7, CellI (some (vi F))), (L + 6, CellI feV), (L + 5, CellI roV), (L + 4, CellI (some (vs name))), (L + 3, CellI (some (.ref r.hr))), (L + 2, CellI (some (.ref ha))), (L + 1, CellI (some (.ref D3))), (bx, ListI (xs.map vi)), (tbA, ListI (t.map vi)), (D, ListI (roL es)), (D3, ListI ((d ++ e).map fun p => .ref p.1))] ++ (roIts es ++ Y)) s :=
    S.pick (ps := [(L, _), (L + 9, _), (L + 8, _), (L + 7, _), (L + 6, _), (L + 5, _), (L + 4, _), (L + 3, _), (L + 2, _), (L + 1, _), (bx, _), (tbA, _), (D, _), (D3, _)]) H (by walk_at "pickr") (by walk_at "sub")
  rw [hY, hZ] at H
  have H := S.mono H (List.Sublist.append_left (List.Sublist.append_left (List.Sublist.append_left (List.Sublist.append_left ((List.sublist_append_right _ _).cons _) [_, _, _, _, _, _, _]) _) _) _)
  have H := H.perm (List.Perm.append_left [_, _, _, _, _, _, _, _, _, _, _, _, _] (perm_fin (F := [_, _, _, _, _, _, _])))
  have e1 : dT d ++ dT e = dT (d ++ e) := by unfold dT; rw [List.map_append]
  rw [e1] at H
  have hgg : (d ++ e).map (·.2) = g'.map (·.2) := by rw [List.map_append, hdg, hec, hg']
  have hlg : g'.length ≤ g.length + 3 := by
    have := congrArg List.length hg'
    rw [List.length_append, List.length_map, List.length_map, List.length_map] at this
    omega
  exact hQ es D D3 st' (d ++ e) g' s (l5'.core hec2) hgg hlg (fun c hc => by rw [hg'] at hc; exact List.mem_append.mp hc) H



inductive Deed (w : World) (C : Cx) (L sl bx ha c' wa c2 tbA seenA knA : Addr) (fd fd2 : FuncData) (q q2 : Str) (F : Int) (r : Rg) (tab : Array Value) (itA : Addr) (itP : Obj → Prop) (turnN kind num : Int) (ptV : Option Value) (xs : List Int) (nb : Nat) (s' : Shared) : Prop where
  | mk (rows' : List Ro) (rwA' duA' : Addr) (t' : List Int) (st' : RS) (d' g' : List (Addr × Cf)) (name' : Str) (trV' roV' feV' : Option Value) (h0 : t'.length = 3) (h1 : (∀ x ∈ t', 1 ≤ x ∧ x ≤ 4)) (h2 : L5 F st' rows') (h3 : d'.map (·.2) = g'.map (·.2)) (h4 : g'.length ≤ nb) (h5 : (∀ c ∈ g'.map (·.2), CfOk c)) (h6 : name' ∈ abc) (h7 : S C ((L, NsI (frW (some (.ref sl)) (some (.ref bx)) (some (.ref wa)) (some (.ref rwA')) (some (vi turnN)) (some (vi kind)) (some (vi num)) (some (.ref knA)) trV' ptV)) :: (clW L (some (.ref duA')) (some (.ref ha)) (some (.ref r.hr)) (some (vs name')) roV' feV' (some (vi F)) (some (.ref seenA)) (some (.ref tbA)) ++ ((bx, ListI (xs.map vi)) :: (tbA, ListI (t'.map vi)) :: (rwA', ListI (roL rows')) :: (ha, FnI fd) :: (c', CodeI q) :: (wa, FnI fd2) :: (c2, CodeI q2) :: (89, TabI #[]) :: (403, TabI tab) :: (itA, itP) :: (duA', ListI ((d').map fun p => .ref p.1)) :: (roIts rows' ++ (dT (d') ++ (rgIts w ha wa r st' ++ toldIts seenA g')))))) s') : Deed w C L sl bx ha c' wa c2 tbA seenA knA fd fd2 q q2 F r tab itA itP turnN kind num ptV xs nb s'
/-- one of the four deeds -/
theorem segT2 (w : World) (C : Cx) (hB : Bs PP w (hK w.params) gl C) (fa L sl : Addr)
   (nm : Str) (ps : Arguments) (body : List Stmt) (ds : List Expr) (rt : Option Expr) (tp : List TypeParam) (sc : Scope) (ts : Option Scope) (bd : Str) (pos : Pos) (hf : f1 11 = .FunctionDef nm ps body ds rt tp sc ts bd pos) (doc pm : Value)
   (F : Int) (hF : 1 ≤ F ∧ F ≤ 100) (xs : List Int) (hx : xs.length ≤ 63) (bx ha c' wa c2 tbA rwA duA seenA : Addr) (fd fd2 : FuncData) (q q2 : Str) (r : Rg) (t : List Int) (ht : t.length = 3) (htb : ∀ x ∈ t, 1 ≤ x ∧ x ≤ 4) (rows : List Ro) (hro : ∀ r ∈ rows, RoOk r) (hrl : rows.length ≤ 3)
   (tab : Array Value) (itA : Addr) (itP : Obj → Prop) (hh : HOk w C ha (choIts ha (L + 7) c' F fd) (choH F) choDom) (hw : ∀ t : List Int, t.length = 3 → WOk w C wa (wsOf wa c2 seenA tbA (L + 8) (L + 9) t fd2) seenA (tabAt t) domW) (hq : q = fd.qualname) (hq2 : q2 = fd2.qualname)
   (st : RS) (l5 : L5 F st rows) (d g : List (Addr × Cf)) (hdg : d.map (·.2) = g.map (·.2)) (hgl : g.length ≤ 900) (hck : ∀ c ∈ g.map (·.2), CfOk c)
   (turnN kind num : Int) (name : Str) (hna : name ∈ abc) (knA : Addr) (trV ptV roV feV : Option Value) (hk0 : 0 ≤ kind ∧ kind < 5)
   (A : Around) (s : Shared) (Q : Flow → Shared → Prop) (E : Value → Shared → Prop) (hA : Rm A 60 200)
   (H : S C ((knA, ListI (rows.map fun r => vs r.name)) :: ((L, NsI (frW (some (.ref sl)) (some (.ref bx)) (some (.ref wa)) (some (.ref rwA)) (some (vi turnN)) (some (vi kind)) (some (vi num)) (some (.ref knA)) trV ptV)) :: (clW L (some (.ref duA)) (some (.ref ha)) (some (.ref r.hr)) (some (vs name)) roV feV (some (vi F)) (some (.ref seenA)) (some (.ref tbA)) ++ ((bx, ListI (xs.map vi)) :: (tbA, ListI (t.map vi)) :: (rwA, ListI (roL rows)) :: (ha, FnI fd) :: (c', CodeI q) :: (wa, FnI fd2) :: (c2, CodeI q2) :: (89, TabI #[]) :: (403, TabI tab) :: (itA, itP) :: (duA, ListI ((d).map fun p => .ref p.1)) :: (roIts rows ++ (dT (d) ++ (rgIts w ha wa r st ++ toldIts seenA g))))))) s)
   (hQ : ∀ s', (Deed w C L sl bx ha c' wa c2 tbA seenA knA fd fd2 q q2 F r tab itA itP turnN kind num ptV xs (g.length + 3) s') → wpAny (model PP w) A (execs ((forBody (body.drop 9)).drop 6) (lenv fa L nm ps body sc doc pm (.ref 405))) Q E s') :
   wpAny (model PP w) A (execs ((forBody (body.drop 9)).drop 5) (lenv fa L nm ps body sc doc pm (.ref 405))) Q E s := by
  obtain ⟨X, hX1, hX2⟩ : ∃ X : Shared → Prop, (∀ s', (Deed w C L sl bx ha c' wa c2 tbA seenA knA fd fd2 q q2 F r tab itA itP turnN kind num ptV xs (g.length + 3) s') → X s') ∧ (∀ s', X s' → (Deed w C L sl bx ha c' wa c2 tbA seenA knA fd fd2 q q2 F r tab itA itP turnN kind num ptV xs (g.length + 3) s')) := ⟨_, fun _ h => h, fun _ h => h⟩
  have hAA : ∀ (E : Value → Shared → Prop) s (QC : Flow → Shared → Prop), (∀ s', X s' → QC .next s') → S C ((knA, ListI (rows.map fun r => vs r.name)) :: ((L, NsI (frW (some (.ref sl)) (some (.ref bx)) (some (.ref wa)) (some (.ref rwA)) (some (vi turnN)) (some (vi kind)) (some (vi num)) (some (.ref knA)) trV ptV)) :: (clW L (some (.ref duA)) (some (.ref ha)) (some (.ref r.hr)) (some (vs name)) roV feV (some (vi F)) (some (.ref seenA)) (some (.ref tbA)) ++ ((bx, ListI (xs.map vi)) :: (tbA, ListI (t.map vi)) :: (rwA, ListI (roL rows)) :: (ha, FnI fd) :: (c', CodeI q) :: (wa, FnI fd2) :: (c2, CodeI q2) :: (89, TabI #[]) :: (403, TabI tab) :: (itA, itP) :: (duA, ListI ((d).map fun p => .ref p.1)) :: (roIts rows ++ (dT (d) ++ (rgIts w ha wa r st ++ toldIts seenA g))))))) s → wpAny (model PP w) A (execs (ifB ((forBody (body.drop 9)).drop 5)) (lenv fa L nm ps body sc doc pm (.ref 405))) QC E s := fun E s QC hQC H => by
    refine segB1 w C hB fa L sl nm ps body ds rt tp sc ts bd pos hf doc pm F hF xs hx bx ha c' wa c2 tbA rwA duA seenA fd fd2 q q2 r t ht htb rows hro hrl tab itA itP hh hw hq hq2 st l5 d g hdg hgl turnN kind num name hna knA trV ptV roV feV A s QC E hA H fun f0 x trA tpx st' g' s hf0 hft l5' hg' H => ?_
    refine segB2 w C hB fa L sl nm ps body ds rt tp sc ts bd pos hf doc pm F hF xs hx bx ha c' wa c2 tbA rwA duA seenA fd fd2 q q2 r t ht htb rows hro hrl turnN kind num f0.name hf0.nm knA (some (.ref trA)) ptV roV (some (.ref f0.ad)) _ (fun p hp => .tail _ (.tail _ (.tail _ (.tail _ (.tail _ (.tail _ (.tail _ (.tail _ (List.mem_append_left _ hp))))))))) f0 hf0.nm l5.nd A s QC E hA H fun D s H => ?_
    simp only [List.cons_append, List.nil_append] at H
    have H : S C ([(L, NsI (frW (some (.ref sl)) (some (.ref bx)) (some (.ref wa)) (some (.ref D)) (some (vi turnN)) (some (vi kind)) (some (vi num)) (some (.ref knA)) (some (.ref trA)) ptV)), (L + 9, CellI (some (.ref tbA))), (L + 8, CellI (some (.ref seenA))), (L + 7, CellI (some (vi F))), (L + 6, CellI (some (.ref f0.ad))), (L + 5, CellI roV), (L + 4, CellI (some (vs f0.name))), (L + 3, CellI (some (.ref r.hr))), (L + 2, CellI (some (.ref ha))), (L + 1, CellI (some (.ref duA))), (bx, ListI (xs.map vi)), (tbA, ListI (t.map vi)), (D, ListI (roL (setRo rows f0))), (ha, FnI fd), (c', CodeI q), (wa, FnI fd2), (c2, CodeI q2), (89, TabI #[]), (403, TabI tab), (itA, itP), (duA, ListI ((d ++ [(tpx, cfT f0 x)]).map fun p => .ref p.1))] ++ ((f0.ad, ListI f0.vals) :: (roIts rows ++ (dT (d ++ [(tpx, cfT f0 x)]) ++ (rgIts w ha wa r st' ++ toldIts seenA g'))))) s :=
      S.pick (ps := [(L, _), (L + 9, _), (L + 8, _), (L + 7, _), (L + 6, _), (L + 5, _), (L + 4, _), (L + 3, _), (L + 2, _), (L + 1, _), (bx, _), (tbA, _), (D, _), (ha, _), (c', _), (wa, _), (c2, _), (89, _), (403, _), (itA, _), (duA, _), (f0.ad, _)]) H (by walk_at "pick") (by walk_at "sub")
    have H := S.ro l5.nd H
    refine hQC s (hX1 s ⟨setRo rows f0, D, duA, t, st', d ++ [(tpx, cfT f0 x)], g', f0.name, some (.ref trA), roV, some (.ref f0.ad), ht, htb, l5', ?_, ?_, ?_, hf0.nm, H⟩)
    · rw [List.map_append, hdg, hg']; rfl
    · have := congrArg List.length hg'
      rw [List.length_append, List.length_map, List.length_map] at this
      simp at this; omega
    · intro c hc
      rw [hg'] at hc
      rcases List.mem_append.mp hc with hc | hc
      · exact hck c hc
      · rw [List.mem_singleton] at hc; subst hc; exact cfok_t hf0 x
  have hBB : ∀ (E : Value → Shared → Prop) s (QC : Flow → Shared → Prop), name ∈ rows.map (·.name) → (∀ s', X s' → QC .next s') → S C ((knA, ListI (rows.map fun r => vs r.name)) :: ((L, NsI (frW (some (.ref sl)) (some (.ref bx)) (some (.ref wa)) (some (.ref rwA)) (some (vi turnN)) (some (vi kind)) (some (vi num)) (some (.ref knA)) trV ptV)) :: (clW L (some (.ref duA)) (some (.ref ha)) (some (.ref r.hr)) (some (vs name)) roV feV (some (vi F)) (some (.ref seenA)) (some (.ref tbA)) ++ ((bx, ListI (xs.map vi)) :: (tbA, ListI (t.map vi)) :: (rwA, ListI (roL rows)) :: (ha, FnI fd) :: (c', CodeI q) :: (wa, FnI fd2) :: (c2, CodeI q2) :: (89, TabI #[]) :: (403, TabI tab) :: (itA, itP) :: (duA, ListI ((d).map fun p => .ref p.1)) :: (roIts rows ++ (dT (d) ++ (rgIts w ha wa r st ++ toldIts seenA g))))))) s → wpAny (model PP w) A (execs (ifB (ifE ((forBody (body.drop 9)).drop 5))) (lenv fa L nm ps body sc doc pm (.ref 405))) QC E s := fun E s QC hin hQC H => by
    refine segB3 w C hB fa L sl nm ps body ds rt tp sc ts bd pos hf doc pm F hF xs hx bx ha c' wa c2 tbA rwA duA seenA fd fd2 q q2 r t ht htb rows hro hrl tab itA itP hh hw hq hq2 st l5 d g hdg hgl turnN kind num name hna knA trV ptV roV feV hin A s QC E hA H fun D st' s l5' H => ?_
    exact hQC s (hX1 s ⟨rmRo rows name, D, duA, t, st', d, g, name, trV, roV, feV, ht, htb, l5', hdg, by omega, hck, hna, H⟩)
  have hCC : ∀ (E : Value → Shared → Prop) s (QC : Flow → Shared → Prop), (∀ s', X s' → QC .next s') → S C ((knA, ListI (rows.map fun r => vs r.name)) :: ((L, NsI (frW (some (.ref sl)) (some (.ref bx)) (some (.ref wa)) (some (.ref rwA)) (some (vi turnN)) (some (vi kind)) (some (vi num)) (some (.ref knA)) trV ptV)) :: (clW L (some (.ref duA)) (some (.ref ha)) (some (.ref r.hr)) (some (vs name)) roV feV (some (vi F)) (some (.ref seenA)) (some (.ref tbA)) ++ ((bx, ListI (xs.map vi)) :: (tbA, ListI (t.map vi)) :: (rwA, ListI (roL rows)) :: (ha, FnI fd) :: (c', CodeI q) :: (wa, FnI fd2) :: (c2, CodeI q2) :: (89, TabI #[]) :: (403, TabI tab) :: (itA, itP) :: (duA, ListI ((d).map fun p => .ref p.1)) :: (roIts rows ++ (dT (d) ++ (rgIts w ha wa r st ++ toldIts seenA g))))))) s → wpAny (model PP w) A (execs (ifB (ifE (ifE ((forBody (body.drop 9)).drop 5)))) (lenv fa L nm ps body sc doc pm (.ref 405))) QC E s := fun E s QC hQC H => by
    refine segB4 w C hB fa L sl nm ps body ds rt tp sc ts bd pos hf doc pm F hF xs hx bx ha c' wa c2 tbA rwA duA seenA fd fd2 q q2 r t ht htb rows hro hrl turnN kind num name knA trV ptV roV feV _ A s QC E hA H fun t' s ht' htb' H => ?_
    exact hQC s (hX1 s ⟨rows, rwA, duA, t', st, d, g, name, trV, roV, feV, ht', htb', l5, hdg, by omega, hck, hna, H.tail⟩)
  have hDD : ∀ (E : Value → Shared → Prop) s (QC : Flow → Shared → Prop), (∀ s', X s' → QC .next s') → S C ((knA, ListI (rows.map fun r => vs r.name)) :: ((L, NsI (frW (some (.ref sl)) (some (.ref bx)) (some (.ref wa)) (some (.ref rwA)) (some (vi turnN)) (some (vi kind)) (some (vi num)) (some (.ref knA)) trV ptV)) :: (clW L (some (.ref duA)) (some (.ref ha)) (some (.ref r.hr)) (some (vs name)) roV feV (some (vi F)) (some (.ref seenA)) (some (.ref tbA)) ++ ((bx, ListI (xs.map vi)) :: (tbA, ListI (t.map vi)) :: (rwA, ListI (roL rows)) :: (ha, FnI fd) :: (c', CodeI q) :: (wa, FnI fd2) :: (c2, CodeI q2) :: (89, TabI #[]) :: (403, TabI tab) :: (itA, itP) :: (duA, ListI ((d).map fun p => .ref p.1)) :: (roIts rows ++ (dT (d) ++ (rgIts w ha wa r st ++ toldIts seenA g))))))) s → wpAny (model PP w) A (execs (ifE (ifE (ifE ((forBody (body.drop 9)).drop 5)))) (lenv fa L nm ps body sc doc pm (.ref 405))) QC E s := fun E s QC hQC H => by
    refine segB5 w C hB fa L sl nm ps body ds rt tp sc ts bd pos hf doc pm F hF xs hx bx ha c' wa c2 tbA rwA duA seenA fd fd2 q q2 r t ht htb rows hro hrl tab itA itP hh hw hq hq2 st l5 d g hdg hgl turnN kind num name hna knA trV ptV roV feV A s QC E hA H fun rows' D duA' st' d' g' s l5' hdg' hgl' hck' H => ?_
    exact hQC s (hX1 s ⟨rows', D, duA', t, st', d', g', name, trV, roV, feV, ht, htb, l5', hdg', hgl', fun c hc => (hck' c hc).elim (hck c) fun h => by obtain ⟨r, hr, rfl⟩ := List.mem_map.mp h; exact cfok_ro (hro r hr), hna, H⟩)
  cases hf
  have hA1 := hA
  refine (show (let env : Env := lenv fa L _ _ _ _ doc pm (.ref 405); wpAny (model PP w) A (execs (_ :: _) env) Q E s) from ?_)
  intro env
  simp only [List.cons_append, List.nil_append] at H
  have hu : A.units + 66 < cLine := by have := hA1.un; omega
  iterate 1 walk1
  refine cut1 (fun f s' => f = .next ∧ X s') ?_ (fun f s' ⟨e, h⟩ => by rw [e]; exact hQ s' (hX2 s' h))
  clear hQ hX1 hX2
  intro QC hQC
  have hQC' : ∀ s', X s' → QC .next s' := fun s' h => hQC _ _ ⟨rfl, h⟩
  clear hQC
  have hsk : ∀ v ∈ rows.map (fun r => vs r.name), Sk v := fun v hv => by
    obtain ⟨q, hq, rfl⟩ := List.mem_map.mp hv
    exact .inr (.inr ⟨_, rfl, abc_ok _ (hro q hq).nm⟩)
  have hmem : PyData.str name ∈ (rows.map fun r => vs r.name).map toD ↔ name ∈ rows.map (·.name) := by
    rw [List.map_map]
    constructor
    · intro h
      obtain ⟨q, hq, e⟩ := List.mem_map.mp h
      have e : PyData.str q.name = PyData.str name := e
      injection e with e
      rw [← e]; exact List.mem_map_of_mem hq
    · intro h
      obtain ⟨q, hq, rfl⟩ := List.mem_map.mp h
      exact List.mem_map.mpr ⟨q, hq, rfl⟩
  have hff : ¬ false = true := Bool.false_ne_true
  iterate 8 walk1
  · iterate 1 walk1
    exact hAA _ _ QC hQC' (S.tkTo H rfl rfl rfl)
  iterate 8 walk1
  · iterate 4 walk1
    have hkk : kind = 2 := by assumption
    refine r_notIn_data (a := .none) (by walk_at "st") hu (rfl : er _ = vs name) (den_flat (by walk_at "mb") hsk) (show Den _ (.str name) (vs name) by unfold Den; rfl) (okd_flat hsk) ⟨by simp [okD, abc_ok name hna], by simp [PyData.depth]⟩ (fun hin => ?_) (fun hnin => ?_)
    · iterate 13 walk1
      · refine hBB _ _ _ (hmem.mp hin) (fun s' h => ?_) (S.tkTo H rfl rfl rfl)
        repeat' walk1
        exact hQC' _ h
      · exact absurd hkk (by assumption)
    · iterate 5 walk1
      exact hAA _ _ QC hQC' (S.tkTo H rfl rfl rfl)
  iterate 11 walk1
  · exact absurd (by assumption) (by assumption : kind ≠ 2)
  iterate 8 walk1
  · refine hCC _ _ _ (fun s' h => ?_) (S.tkTo H rfl rfl rfl)
    repeat' walk1
    exact hQC' _ h
  · refine hDD _ _ _ (fun s' h => ?_) (S.tkTo H rfl rfl rfl)
    repeat' walk1
    exact hQC' _ h



theorem empty_app : ∀ n ∈ abc, Str.empty ++ n = n := by decide +kernel
theorem keyN_eq {n : Str} (h : n ∈ abc) (k : Nat) : n ++ Str.ofString "-" ++ Str.ofString (toString (k : Int)) = keyN n k := by unfold keyN; rw [empty_app n h]
theorem dash_len : ∀ n ∈ abc, n.length + (Str.ofString "-").length ≤ 100 := by decide +kernel
theorem dash_len2 : ∀ n ∈ abc, (n ++ Str.ofString "-").length ≤ 100 := by decide +kernel
theorem num_len : ∀ k : Nat, k < 8 → (Str.ofString (toString (k : Int))).length ≤ 100 := by decide +kernel
theorem sizeLine_ge' : 100 ≤ sizeLine := by rw [sizeLine_eq]; decide
theorem sizeLine_ge'' : 100 + 100 ≤ sizeLine := by rw [sizeLine_eq]; decide
theorem allP_snoc {F : Int} {rows : List Ro} {i : Nat} (hi : i < rows.length) : allP F (rows.take (i + 1)) = allP F (rows.take i) ++ rowPts F rows[i] := by
  rw [List.take_add_one, List.getElem?_eq_getElem hi]
  unfold allP
  rw [List.flatMap_append]; simp
theorem rowPts_step (F : Int) (r : Ro) {k : Nat} : (List.range (k + 1)).map (fun k => (choH F (keyN r.name k), r.name)) = (List.range k).map (fun k => (choH F (keyN r.name k), r.name)) ++ [(choH F (keyN r.name k), r.name)] := by
  rw [List.range_succ, List.map_append]; rfl
/-- the law's own points -/
theorem segT3 (w : World) (C : Cx) (hB : Bs PP w (hK w.params) gl C) (fa L sl : Addr)
   (nm : Str) (ps : Arguments) (body : List Stmt) (ds : List Expr) (rt : Option Expr) (tp : List TypeParam) (sc : Scope) (ts : Option Scope) (bd : Str) (pos : Pos) (hf : f1 11 = .FunctionDef nm ps body ds rt tp sc ts bd pos) (doc pm : Value)
   (F : Int) (hF : 1 ≤ F ∧ F ≤ 100) (xs : List Int) (hx : xs.length ≤ 63) (bx ha c' wa c2 tbA rwA duA seenA : Addr) (fd fd2 : FuncData) (q q2 : Str) (r : Rg) (t : List Int) (ht : t.length = 3) (htb : ∀ x ∈ t, 1 ≤ x ∧ x ≤ 4) (rows : List Ro) (hro : ∀ r ∈ rows, RoOk r) (hrl : rows.length ≤ 3)
   (hh : HOk w C ha (choIts ha (L + 7) c' F fd) (choH F) choDom) (hq : q = fd.qualname)
   (turnN kind num : Int) (name : Str) (knA : Addr) (trV ptV roV feV : Option Value) (tl : List Item) (hri : ∀ p ∈ roIts rows, p ∈ tl) (hch1 : (ha, FnI fd) ∈ tl) (hch2 : (c', CodeI q) ∈ tl) (hal : (allP F rows).length ≤ 24) (hac : ∀ i, (allP F (rows.take i)).length ≤ 24)
   (A : Around) (s : Shared) (Q : Flow → Shared → Prop) (E : Value → Shared → Prop) (hA : Rm A 60 200)
   (H : S C ((L, NsI (frW (some (.ref sl)) (some (.ref bx)) (some (.ref wa)) (some (.ref rwA)) (some (vi turnN)) (some (vi kind)) (some (vi num)) (some (.ref knA)) trV ptV)) :: (clW L (some (.ref duA)) (some (.ref ha)) (some (.ref r.hr)) (some (vs name)) roV feV (some (vi F)) (some (.ref seenA)) (some (.ref tbA)) ++ ((bx, ListI (xs.map vi)) :: (tbA, ListI (t.map vi)) :: (rwA, ListI (roL rows)) :: tl))) s)
   (hQ : ∀ (P : Addr) (ts : List Addr) (roV : Option Value) s', ts.length = (allP F rows).length → S C ((P, ListI (ts.map .ref)) :: (tupIts ts ((allP F rows).map pairOf) ++ ((L, NsI (frW (some (.ref sl)) (some (.ref bx)) (some (.ref wa)) (some (.ref rwA)) (some (vi turnN)) (some (vi kind)) (some (vi num)) (some (.ref knA)) trV (some (.ref P)))) :: (clW L (some (.ref duA)) (some (.ref ha)) (some (.ref r.hr)) (some (vs name)) roV feV (some (vi F)) (some (.ref seenA)) (some (.ref tbA)) ++ ((bx, ListI (xs.map vi)) :: (tbA, ListI (t.map vi)) :: (rwA, ListI (roL rows)) :: tl))))) s' → wpAny (model PP w) A (execs ((forBody (body.drop 9)).drop 8) (lenv fa L nm ps body sc doc pm (.ref 405))) Q E s') :
   wpAny (model PP w) A (execs ((forBody (body.drop 9)).drop 6) (lenv fa L nm ps body sc doc pm (.ref 405))) Q E s := by
  cases hf
  have hA1 := hA
  refine (show (let env : Env := lenv fa L _ _ _ _ doc pm (.ref 405); wpAny (model PP w) A (execs (_ :: _) env) Q E s) from ?_)
  intro env
  simp only [List.cons_append, List.nil_append] at H
  iterate 10 walk1
  rename_i P it hit
  have hlen : (roL rows).length = rows.length := List.length_map _
  refine for_nx1 (nx_list rwA (roL rows) hit) hA1.hd (fun i its => ∃ P ts roV, ts.length = (allP F (rows.take i)).length ∧ its = (P, ListI (ts.map .ref)) :: (tupIts ts ((allP F (rows.take i)).map pairOf) ++ ((L, NsI (frW (some (.ref sl)) (some (.ref bx)) (some (.ref wa)) (some (.ref rwA)) (some (vi turnN)) (some (vi kind)) (some (vi num)) (some (.ref knA)) trV (some (.ref P)))) :: (clW L (some (.ref duA)) (some (.ref ha)) (some (.ref r.hr)) (some (vs name)) roV feV (some (vi F)) (some (.ref seenA)) (some (.ref tbA)) ++ ((bx, ListI (xs.map vi)) :: (tbA, ListI (t.map vi)) :: (rwA, ListI (roL rows)) :: tl))))) ?_ ⟨P, [], roV, rfl, rfl⟩ H ?_ ?_
  · rintro i l ⟨P, ts, roV, _, rfl⟩
    walk_at "mb"
  · rintro i v l s E' hi ⟨X, hX, he⟩ ⟨P, ts, roV, hts, rfl⟩ H QI hQI
    obtain ⟨hi', rfl, hri'⟩ := ro_at hri hi hX he
    obtain rfl : X = .ref rows[i].ad := he.symm
    have hrk := hro _ (List.getElem_mem hi')
    have hcnt := hrk.cnt
    have hcz : (rows[i].v * rows[i].wt - 0).toNat = rows[i].cnt := by rw [Int.sub_zero]; rfl
    obtain ⟨z1, z2, z3, z4, z5, z6⟩ := hrk.b
    have hb1 : 1 * 1 ≤ rows[i].v * rows[i].wt := Int.mul_le_mul hrk.b.1 hrk.b.2.2.2.2.1 (by decide) (by have := hrk.b.1; omega)
    have hb2 : rows[i].v * rows[i].wt ≤ 2 * 4 := Int.mul_le_mul hrk.b.2.1 hrk.b.2.2.2.2.2 (by have := hrk.b.2.2.2.2.1; omega) (by decide)
    simp only [List.cons_append, List.nil_append] at H
    iterate 5 walk1
    refine lc_eval (cl := [("row", L + 5), ("chosen", L + 2)]) rfl rfl (by decide) ?_
    repeat' walk1
    rename_i rgR it2 hit2
    rw [hcz] at H
    have hmr : (rows[i].ad, ListI rows[i].vals) ∈ tl := hri'
    have H : S C ((it2, RangeIt 0 rows[i].cnt 0) :: ((it, ListIt rwA (i + 1)) :: (P, ListI (ts.map .ref)) :: (tupIts ts ((allP F (rows.take i)).map pairOf) ++ ((L, NsI (frW (some (.ref sl)) (some (.ref bx)) (some (.ref wa)) (some (.ref rwA)) (some (vi turnN)) (some (vi kind)) (some (vi num)) (some (.ref knA)) trV (some (.ref P)))) :: (clW L (some (.ref duA)) (some (.ref ha)) (some (.ref r.hr)) (some (vs name)) (some (.ref rows[i].ad)) feV (some (vi F)) (some (.ref seenA)) (some (.ref tbA)) ++ ((bx, ListI (xs.map vi)) :: (tbA, ListI (t.map vi)) :: (rwA, ListI (roL rows)) :: tl)))))) s := H.mono (by walk_at "sub")
    have hci : ∀ p ∈ choIts ha (L + 7) c' F fd, p ∈ (it, ListIt rwA (i + 1)) :: (P, ListI (ts.map .ref)) :: (tupIts ts ((allP F (rows.take i)).map pairOf) ++ ((L, NsI (frW (some (.ref sl)) (some (.ref bx)) (some (.ref wa)) (some (.ref rwA)) (some (vi turnN)) (some (vi kind)) (some (vi num)) (some (.ref knA)) trV (some (.ref P)))) :: (clW L (some (.ref duA)) (some (.ref ha)) (some (.ref r.hr)) (some (vs name)) (some (.ref rows[i].ad)) feV (some (vi F)) (some (.ref seenA)) (some (.ref tbA)) ++ ((bx, ListI (xs.map vi)) :: (tbA, ListI (t.map vi)) :: (rwA, ListI (roL rows)) :: tl)))) := fun p hp => by
      rcases List.mem_cons.mp hp with rfl | hp
      · walk_at "mb"
      rcases List.mem_cons.mp hp with rfl | hp
      · rw [← hq]; walk_at "mb"
      rw [List.mem_singleton] at hp; subst hp
      walk_at "mb"
    have hself : ∀ (Q' E' : Value → Shared → Prop) its' s', S C ((it2, RangeIt 0 rows[i].cnt 0) :: its') s' → Q' (.ref it2) s' → wpAny (model PP w) A (pyIter (.ref it2)) Q' E' s' := fun Q' E' its' s' H' h' => self_range H' h'
    refine lc_go1 (nx_range 0 rows[i].cnt hit2) hA1.hd (fun k ys l => ∃ us : List Addr, ys = us.map .ref ∧ us.length = k ∧ l = tupIts us (((List.range k).map (fun k => (choH F (keyN rows[i].name k), rows[i].name))).map pairOf) ++ ((it, ListIt rwA (i + 1)) :: (P, ListI (ts.map .ref)) :: (tupIts ts ((allP F (rows.take i)).map pairOf) ++ ((L, NsI (frW (some (.ref sl)) (some (.ref bx)) (some (.ref wa)) (some (.ref rwA)) (some (vi turnN)) (some (vi kind)) (some (vi num)) (some (.ref knA)) trV (some (.ref P)))) :: (clW L (some (.ref duA)) (some (.ref ha)) (some (.ref r.hr)) (some (vs name)) (some (.ref rows[i].ad)) feV (some (vi F)) (some (.ref seenA)) (some (.ref tbA)) ++ ((bx, ListI (xs.map vi)) :: (tbA, ListI (t.map vi)) :: (rwA, ListI (roL rows)) :: tl)))))) (fun _ _ _ _ _ _ => trivial) (by decide) rfl rfl (by omega) hself ⟨[], rfl, rfl, rfl⟩ H ?_ ?_
    · rintro k v ys l cf D s E' hk ⟨u, rfl⟩ ⟨us, rfl, hus, rfl⟩ hyl H QI2 hQI2
      rw [Int.zero_add] at *
      simp only [List.cons_append, List.nil_append] at H
      repeat' walk1
      have hci2 : ∀ {x1 x2 x3 : Item} {T : List Item}, ∀ p ∈ choIts ha (L + 7) c' F fd, p ∈ x1 :: x2 :: x3 :: (T ++ ((it, ListIt rwA (i + 1)) :: (P, ListI (ts.map .ref)) :: (tupIts ts ((allP F (rows.take i)).map pairOf) ++ ((L, NsI (frW (some (.ref sl)) (some (.ref bx)) (some (.ref wa)) (some (.ref rwA)) (some (vi turnN)) (some (vi kind)) (some (vi num)) (some (.ref knA)) trV (some (.ref P)))) :: (clW L (some (.ref duA)) (some (.ref ha)) (some (.ref r.hr)) (some (vs name)) (some (.ref rows[i].ad)) feV (some (vi F)) (some (.ref seenA)) (some (.ref tbA)) ++ ((bx, ListI (xs.map vi)) :: (tbA, ListI (t.map vi)) :: (rwA, ListI (roL rows)) :: tl)))))) := fun p hp => .tail _ (.tail _ (.tail _ (List.mem_append_right _ (hci p hp))))
      refine callWith_F (hh.fn _ _ H hci2) ?_
      iterate 8 walk1
      have hnr := hrk.nm
      have hk8 : k < 8 := by omega
      refine add_str (fun _ _ => ?_) (Nat.le_trans (dash_len _ hnr) sizeLine_ge')
      repeat' walk1
      refine add_str (fun _ _ => ?_) (Nat.le_trans (Nat.add_le_add (dash_len2 _ hnr) (num_len k hk8)) sizeLine_ge'')
      rw [keyN_eq hnr]
      repeat' walk1
      · exact hh.fn _ _ H hci2
      refine hh.run _ _ _ _ _ _ _ (cho_dom (hrk.dd k hk)) (hA1.le (by decide) (by decide)) (S.tkTo H rfl rfl rfl) hci2 fun t' s H => ?_
      repeat' walk1
      rename_i tp
      have hus2 : us.length = ((List.range k).map (fun k => (choH F (keyN rows[i].name k), rows[i].name))).length := by rw [List.length_map, List.length_range, hus]
      refine hQI2 _ _ _ ⟨us ++ [tp], by rw [List.map_append]; rfl, by rw [List.length_append, hus]; rfl, rfl⟩ ?_
      rw [rowPts_step, List.map_append, show tupIts (us ++ [tp]) (((List.range k).map (fun k => (choH F (keyN rows[i].name k), rows[i].name))).map pairOf ++ List.map pairOf [(choH F (keyN rows[i].name k), rows[i].name)]) = _ from tupIts_snoc (by rw [List.length_map, hus2]), List.append_assoc]
      have H := S.pick (ps := [(cf, _), (D, _), (it2, _)]) H (by walk_at "pick") (List.Sublist.refl _)
      exact H.perm (List.Perm.append_left [_, _, _] List.perm_middle.symm)
    rintro ys l cf X D s ⟨us, rfl, hus, rfl⟩ hyl hcf H
    refine post_none H hcf fun s H => ?_
    refine r_add_lists (S.tkTo H rfl rfl rfl) (by walk_at "mb") (by walk_at "mb") ?_ fun D3 s H => ?_
    · have h1 := hac i
      rw [List.length_map, List.length_map, hts, hus]; omega
    repeat' walk1
    have hR : S C ((it, ListIt rwA (i + 1)) :: (D3, ListI ((ts ++ us).map .ref)) :: (tupIts us (((List.range rows[i].cnt).map (fun k => (choH F (keyN rows[i].name k), rows[i].name))).map pairOf) ++ (tupIts ts ((allP F (rows.take i)).map pairOf) ++ ((L, NsI (frW (some (.ref sl)) (some (.ref bx)) (some (.ref wa)) (some (.ref rwA)) (some (vi turnN)) (some (vi kind)) (some (vi num)) (some (.ref knA)) trV (some (.ref D3)))) :: (clW L (some (.ref duA)) (some (.ref ha)) (some (.ref r.hr)) (some (vs name)) (some (.ref rows[i].ad)) feV (some (vi F)) (some (.ref seenA)) (some (.ref tbA)) ++ ((bx, ListI (xs.map vi)) :: (tbA, ListI (t.map vi)) :: (rwA, ListI (roL rows)) :: tl)))))) s := by
      rw [List.map_append]
      have H := S.pick (ps := [(it, _), (D3, _)]) H (by walk_at "pickr") (List.Sublist.refl _)
      exact H.mono ((((List.Sublist.append_left (List.sublist_cons_self _ _) _).cons _).cons_cons _).cons_cons _)
    have hR := hR.perm (List.Perm.append_left [_, _] (List.perm_append_comm_assoc _ _ _))
    have hap : tupIts (ts ++ us) ((allP F (rows.take (i + 1))).map pairOf) = tupIts ts ((allP F (rows.take i)).map pairOf) ++ tupIts us (((List.range rows[i].cnt).map (fun k => (choH F (keyN rows[i].name k), rows[i].name))).map pairOf) := by
      rw [allP_snoc hi', List.map_append]
      unfold tupIts
      rw [List.zip_append (by rw [List.length_map, hts]), List.map_append]; rfl
    refine hQI _ _ (TurnEnd.next ⟨D3, ts ++ us, some (.ref rows[i].ad), ?_, ?_⟩ hR)
    · rw [allP_snoc hi', List.length_append, List.length_append, hts, hus]; simp [rowPts]
    · rw [hap, List.append_assoc]; rfl
  rintro l s E' ⟨P, ts, roV, hts, rfl⟩ H
  rw [hlen, List.take_of_length_le (Nat.le_refl _)] at hts H
  walk1
  exact hQ P ts roV _ hts H



set_option hygiene false in
local macro_rules | `(tactic| walk_at "rgin") => `(tactic| first | with_reducible exact hrg _ hp | (with_reducible refine List.mem_cons_of_mem _ ?_; walk_at "rgin") | (with_reducible refine List.mem_append_right _ ?_; walk_at "rgin"))
theorem nl_at {w : World} {ha wa : Addr} {r : Rg} {F : Int} {st : RS} {rows : List Ro} (l : L5 F st rows) {q : Ro} (hq : q ∈ rows) : ∃ a, valueAt (nlK st.nl) q.name = some (.ref a) ∧ (a, DictI (sk PP w) q.cf.kvs none) ∈ rgIts w ha wa r st := by
  have hm : (q.name, q.cf) ∈ nlC st.nl := by rw [l.nl]; exact List.mem_map.mpr ⟨q, hq, rfl⟩
  obtain ⟨p, hp, e⟩ := List.mem_map.mp hm
  injection e with e1 e2
  refine ⟨p.2.1, ?_, ?_⟩
  · refine valueAt_mem (us := nlK st.nl) ?_ ?_
    · rw [nlK_keys]; exact l.ok.nd
    · exact List.mem_map.mpr ⟨p, hp, by rw [e1]⟩
  · have h1 : (p.2.1, DictI (sk PP w) q.cf.kvs none) ∈ nlIts w st.nl := List.mem_map.mpr ⟨p, hp, by rw [e2]⟩
    unfold rgIts
    repeat (first | exact List.mem_append_right _ h1 | refine List.mem_cons_of_mem _ ?_)
theorem unis {A : Around} {d u : Nat} (h : Rm A d u) (hu : 66 ≤ u) : A.units + 66 < cLine ∧ A.units + 64 < cLine := by have := h.un; omega
set_option hygiene false in
local macro_rules | `(tactic| walk_at "rgm") => `(tactic| first | exact hrg _ hp | (refine List.mem_cons_of_mem _ ?_; walk_at "rgm") | (refine List.mem_append_right _ ?_; walk_at "rgm"))
theorem zip_sub {ts ts' : List Addr} {rs rs' : List (Int × Str)} (h : (ts'.zip rs').Perm (ts.zip rs)) : ∀ p ∈ tupIts ts' (rs'.map pairOf), p ∈ tupIts ts (rs.map pairOf) := by
  intro p hp
  unfold tupIts at hp ⊢
  rw [List.zip_map_right, List.map_map] at hp ⊢
  exact (h.map _).mem_iff.mp hp
theorem zip_rows {ts ts' : List Addr} {rs rs' : List (Int × Str)} (h : (ts'.zip rs').Perm (ts.zip rs)) (h1 : ts'.length = rs'.length) (h2 : ts.length = rs.length) : rs'.Perm rs := by
  have := h.map Prod.snd
  rw [List.map_snd_zip (by omega), List.map_snd_zip (by omega)] at this
  exact this
theorem sk_pairs {F : Int} {st : RS} {rows : List Ro} (l : L5 F st rows) {ps : List (Int × Str)} (e : ps.map pairOf = ptsOf st.ns st.m.rl) : ∀ row ∈ ps.map pairOf, ∀ v ∈ row, Sk v := by rw [e]; exact l.pts_sk
/-- sorted, and told alike -/
theorem segT4 (w : World) (C : Cx) (hB : Bs PP w (hK w.params) gl C) (fa L sl : Addr)
   (nm : Str) (ps : Arguments) (body : List Stmt) (ds : List Expr) (rt : Option Expr) (tp : List TypeParam) (sc : Scope) (ts : Option Scope) (bd : Str) (pos : Pos) (hf : f1 11 = .FunctionDef nm ps body ds rt tp sc ts bd pos) (doc pm : Value)
   (F : Int) (hF : 1 ≤ F ∧ F ≤ 100) (xs : List Int) (hx : xs.length ≤ 63) (bx ha c' wa c2 tbA rwA duA seenA : Addr) (fd fd2 : FuncData) (q q2 : Str) (r : Rg) (t : List Int) (ht : t.length = 3) (htb : ∀ x ∈ t, 1 ≤ x ∧ x ≤ 4) (rows : List Ro) (hro : ∀ r ∈ rows, RoOk r) (hrl : rows.length ≤ 3)
   (turnN kind num : Int) (name : Str) (knA P : Addr) (trV roV feV : Option Value) (tl : List Item) (hri : ∀ p ∈ roIts rows, p ∈ tl) (st : RS) (l5 : L5 F st rows) (hrg : ∀ p ∈ rgIts w ha wa r st, p ∈ tl) (ts : List Addr) (hts : ts.length = (allP F rows).length)
   (A : Around) (s : Shared) (Q : Flow → Shared → Prop) (E : Value → Shared → Prop) (hA : Rm A 60 200)
   (H : S C ((P, ListI (ts.map .ref)) :: (tupIts ts ((allP F rows).map pairOf) ++ ((L, NsI (frW (some (.ref sl)) (some (.ref bx)) (some (.ref wa)) (some (.ref rwA)) (some (vi turnN)) (some (vi kind)) (some (vi num)) (some (.ref knA)) trV (some (.ref P)))) :: (clW L (some (.ref duA)) (some (.ref ha)) (some (.ref r.hr)) (some (vs name)) roV feV (some (vi F)) (some (.ref seenA)) (some (.ref tbA)) ++ ((bx, ListI (xs.map vi)) :: (tbA, ListI (t.map vi)) :: (rwA, ListI (roL rows)) :: tl))))) s)
   (hQ : ∀ s', S C ((L, NsI (frW (some (.ref sl)) (some (.ref bx)) (some (.ref wa)) (some (.ref rwA)) (some (vi turnN)) (some (vi kind)) (some (vi num)) (some (.ref knA)) trV (some (.ref P)))) :: (clW L (some (.ref duA)) (some (.ref ha)) (some (.ref r.hr)) (some (vs name)) roV feV (some (vi F)) (some (.ref seenA)) (some (.ref tbA)) ++ ((bx, ListI (xs.map vi)) :: (tbA, ListI (t.map vi)) :: (rwA, ListI (roL rows)) :: tl))) s' → wpAny (model PP w) A (execs ((forBody (body.drop 9)).drop 10) (lenv fa L nm ps body sc doc pm (.ref 405))) Q E s') :
   wpAny (model PP w) A (execs ((forBody (body.drop 9)).drop 8) (lenv fa L nm ps body sc doc pm (.ref 405))) Q E s := by
  cases hf
  have hA1 := hA
  refine (show (let env : Env := lenv fa L _ _ _ _ doc pm (.ref 405); wpAny (model PP w) A (execs (_ :: _) env) Q E s) from ?_)
  intro env
  simp only [List.cons_append, List.nil_append] at H
  have hu := unis hA1 (by decide)
  have hap := l5.allP_len hF
  iterate 6 walk1
  refine r_lsort (itsF := fun X => (P, X) :: (tupIts ts ((allP F rows).map pairOf) ++ ((L, NsI (frW (some (.ref sl)) (some (.ref bx)) (some (.ref wa)) (some (.ref rwA)) (some (vi turnN)) (some (vi kind)) (some (vi num)) (some (.ref knA)) trV (some (.ref P)))) :: (clW L (some (.ref duA)) (some (.ref ha)) (some (.ref r.hr)) (some (vs name)) roV feV (some (vi F)) (some (.ref seenA)) (some (.ref tbA)) ++ ((bx, ListI (xs.map vi)) :: (tbA, ListI (t.map vi)) :: (rwA, ListI (roL rows)) :: tl))))) (S.tkTo H rfl rfl rfl) (fun _ _ => .head) hts (fun X p hp => .tail _ (List.mem_append_left _ hp)) (allP_nd hF l5.nd l5.ro) (by omega) fun ts' rs' s hl hp hs H => ?_
  have hgr : ∀ p ∈ rgIts w ha wa r st, p ∈ (P, ListI (ts'.map .ref)) :: (tupIts ts ((allP F rows).map pairOf) ++ ((L, NsI (frW (some (.ref sl)) (some (.ref bx)) (some (.ref wa)) (some (.ref rwA)) (some (vi turnN)) (some (vi kind)) (some (vi num)) (some (.ref knA)) trV (some (.ref P)))) :: (clW L (some (.ref duA)) (some (.ref ha)) (some (.ref r.hr)) (some (vs name)) roV feV (some (vi F)) (some (.ref seenA)) (some (.ref tbA)) ++ ((bx, ListI (xs.map vi)) :: (tbA, ListI (t.map vi)) :: (rwA, ListI (roL rows)) :: tl)))) := fun p hp => .tail _ (List.mem_append_right _ (by walk_at "rgm"))
  have hnd := (rg_nd H hgr).1
  have hpts := l5.pts hF hnd (zip_rows hp hl hts) hs
  have hT := zip_sub hp
  simp only [List.cons_append, List.nil_append] at H
  repeat' walk1
  refine law_pts hB l5 (hA1.le (by decide) (by decide)) (by walk_at "st") (by intro p hp; walk_at "rgin") fun D2 t2 s ht2 H => ?_
  iterate 1 walk1
  refine r_ne_data (by walk_at "st") hu.2 (rfl : er _ = .ref D2) (rfl : er _ = .ref P) (den_rows (T := true) (by rw [ptsOf_len]; exact ht2) (by walk_at "mb") (fun p hp => .tail _ (List.mem_append_left _ hp)) l5.pts_sk) (den_rows (T := true) (by rw [List.length_map]; exact hl) (by walk_at "mb") (fun p hp => .tail _ (List.mem_append_right _ (.tail _ (List.mem_append_left _ (hT p hp))))) (sk_pairs l5 hpts)) (okd_rows l5.pts_sk) (okd_rows (sk_pairs l5 hpts)) (fun _ => ?_) (fun e => absurd (by rw [hpts]) e)
  iterate 4 walk1
  have hlen : (roL rows).length = rows.length := List.length_map _
  have H : S C ((L, NsI (frW (some (.ref sl)) (some (.ref bx)) (some (.ref wa)) (some (.ref rwA)) (some (vi turnN)) (some (vi kind)) (some (vi num)) (some (.ref knA)) trV (some (.ref P)))) :: (clW L (some (.ref duA)) (some (.ref ha)) (some (.ref r.hr)) (some (vs name)) roV feV (some (vi F)) (some (.ref seenA)) (some (.ref tbA)) ++ ((bx, ListI (xs.map vi)) :: (tbA, ListI (t.map vi)) :: (rwA, ListI (roL rows)) :: tl))) s := H.mono ((((List.sublist_append_right _ _).cons _).trans (List.sublist_append_right _ _)).cons _)
  simp only [List.cons_append, List.nil_append] at H
  refine lc_eval (cl := [("ring", L + 3)]) rfl rfl (by decide) ?_
  iterate 2 walk1
  rename_i it1 hit1
  refine lc_go1 (nx_list rwA (roL rows) hit1) hA1.hd (fun i ys l => ys = (rows.take i).map (fun q => vi q.wt) ∧ l = (L, NsI (frW (some (.ref sl)) (some (.ref bx)) (some (.ref wa)) (some (.ref rwA)) (some (vi turnN)) (some (vi kind)) (some (vi num)) (some (.ref knA)) trV (some (.ref P)))) :: (clW L (some (.ref duA)) (some (.ref ha)) (some (.ref r.hr)) (some (vs name)) roV feV (some (vi F)) (some (.ref seenA)) (some (.ref tbA)) ++ ((bx, ListI (xs.map vi)) :: (tbA, ListI (t.map vi)) :: (rwA, ListI (roL rows)) :: tl))) ?_ (by decide) rfl rfl (by omega) (fun Q' E' its' s' H' h' => self_list H' h') ⟨rfl, rfl⟩ H ?_ ?_
  · rintro i ys l p q ⟨_, rfl⟩
    walk_at "mb"
  · rintro i v ys l cf D s E' hi ⟨X, hX, he⟩ ⟨rfl, rfl⟩ hyl H QI hQI
    obtain ⟨hi', rfl, hri'⟩ := ro_at hri hi hX he
    have hstep : rows.take (i + 1) = rows.take i ++ [rows[i]] := by rw [List.take_add_one, List.getElem?_eq_getElem hi']; rfl
    simp only [List.cons_append, List.nil_append] at H
    obtain ⟨na, hna1, hna2⟩ := nl_at (w := w) (ha := ha) (wa := wa) (r := r) l5 (List.getElem_mem hi')
    have hna2 := hrg _ hna2
    have hno := hrg (r.nodes, DictI (sk PP w) (nlK st.nl) none) (by simp [rgIts])
    have hw1 := cf_wt rows[i].cf
    repeat' walk1
    refine hQI _ _ _ ⟨?_, rfl⟩ (S.tkTo H rfl rfl rfl)
    rw [hstep, List.map_append]; rfl
  rintro ys l cf X D1 s ⟨rfl, rfl⟩ hyl hcf H
  refine post_none H hcf fun s H => ?_
  simp only [List.cons_append, List.nil_append] at H
  refine lc_eval (cl := []) rfl rfl (by decide) ?_
  iterate 2 walk1
  rename_i it2 hit2
  refine lc_go1 (nx_list rwA (roL rows) hit2) hA1.hd (fun i ys l => ys = (rows.take i).map (fun q => vi q.wt) ∧ l = (D1, ListI ((rows.take (roL rows).length).map fun q => vi q.wt)) :: ((L, NsI (frW (some (.ref sl)) (some (.ref bx)) (some (.ref wa)) (some (.ref rwA)) (some (vi turnN)) (some (vi kind)) (some (vi num)) (some (.ref knA)) trV (some (.ref P)))) :: (clW L (some (.ref duA)) (some (.ref ha)) (some (.ref r.hr)) (some (vs name)) roV feV (some (vi F)) (some (.ref seenA)) (some (.ref tbA)) ++ ((bx, ListI (xs.map vi)) :: (tbA, ListI (t.map vi)) :: (rwA, ListI (roL rows)) :: tl)))) ?_ (by decide) rfl rfl (by omega) (fun Q' E' its' s' H' h' => self_list H' h') ⟨rfl, rfl⟩ H ?_ ?_
  · rintro i ys l p q ⟨_, rfl⟩
    walk_at "mb"
  · rintro i v ys l cf D s E' hi ⟨X, hX, he⟩ ⟨rfl, rfl⟩ hyl H QI hQI
    obtain ⟨hi', rfl, hri'⟩ := ro_at hri hi hX he
    have hstep : rows.take (i + 1) = rows.take i ++ [rows[i]] := by rw [List.take_add_one, List.getElem?_eq_getElem hi']; rfl
    simp only [List.cons_append, List.nil_append] at H
    repeat' walk1
    refine hQI _ _ _ ⟨?_, rfl⟩ (S.tkTo H rfl rfl rfl)
    rw [hstep, List.map_append]; rfl
  rintro ys l cf X D2 s ⟨rfl, rfl⟩ hyl hcf H
  refine post_none H hcf fun s H => ?_
  have hsk : ∀ v ∈ (rows.take (roL rows).length).map (fun q : Ro => vi q.wt), Sk v := fun v hv => by
    obtain ⟨q, _, rfl⟩ := List.mem_map.mp hv
    exact .inr (.inl ⟨_, rfl⟩)
  refine r_ne_data (by walk_at "st") hu.2 (rfl : er _ = .ref D1) (rfl : er _ = .ref D2) (den_flat (by walk_at "mb") hsk) (den_flat (by walk_at "mb") hsk) (okd_flat hsk) (okd_flat hsk) (fun _ => ?_) (fun e => absurd rfl e)
  iterate 5 walk1
  exact hQ _ (H.mono (((List.sublist_cons_self _ _)).cons _))



set_option hygiene false in
local macro_rules | `(tactic| walk_at "rgin") => `(tactic| first | with_reducible exact hrg _ hp | (with_reducible refine List.mem_cons_of_mem _ ?_; walk_at "rgin") | (with_reducible refine List.mem_append_right _ ?_; walk_at "rgin"))
noncomputable def thr (q : Ro) : List Value := [vi q.v, vi q.port, vs q.host]
theorem rowIts_snoc {T : Bool} {ts : List Addr} {ds : List (List Value)} {t : Addr} {d : List Value} (h : ts.length = ds.length) : rowIts T (ts ++ [t]) (ds ++ [d]) = rowIts T ts ds ++ [(t, rowI T d)] := by
  unfold rowIts
  rw [List.zip_append h, List.map_append]; rfl
/-- rows are told alike -/
theorem segT5 (w : World) (C : Cx) (hB : Bs PP w (hK w.params) gl C) (fa L sl : Addr)
   (nm : Str) (ps : Arguments) (body : List Stmt) (ds : List Expr) (rt : Option Expr) (tp : List TypeParam) (sc : Scope) (ts : Option Scope) (bd : Str) (pos : Pos) (hf : f1 11 = .FunctionDef nm ps body ds rt tp sc ts bd pos) (doc pm : Value)
   (F : Int) (hF : 1 ≤ F ∧ F ≤ 100) (xs : List Int) (hx : xs.length ≤ 63) (bx ha c' wa c2 tbA rwA duA seenA : Addr) (fd fd2 : FuncData) (q q2 : Str) (r : Rg) (t : List Int) (ht : t.length = 3) (htb : ∀ x ∈ t, 1 ≤ x ∧ x ≤ 4) (rows : List Ro) (hro : ∀ r ∈ rows, RoOk r) (hrl : rows.length ≤ 3)
   (turnN kind num : Int) (name : Str) (knA P : Addr) (trV roV feV : Option Value) (tl : List Item) (hri : ∀ p ∈ roIts rows, p ∈ tl) (st : RS) (l5 : L5 F st rows) (hrg : ∀ p ∈ rgIts w ha wa r st, p ∈ tl)
   (A : Around) (s : Shared) (Q : Flow → Shared → Prop) (E : Value → Shared → Prop) (hA : Rm A 60 200)
   (H : S C ((L, NsI (frW (some (.ref sl)) (some (.ref bx)) (some (.ref wa)) (some (.ref rwA)) (some (vi turnN)) (some (vi kind)) (some (vi num)) (some (.ref knA)) trV (some (.ref P)))) :: (clW L (some (.ref duA)) (some (.ref ha)) (some (.ref r.hr)) (some (vs name)) roV feV (some (vi F)) (some (.ref seenA)) (some (.ref tbA)) ++ ((bx, ListI (xs.map vi)) :: (tbA, ListI (t.map vi)) :: (rwA, ListI (roL rows)) :: tl))) s)
   (hQ : ∀ s', S C ((L, NsI (frW (some (.ref sl)) (some (.ref bx)) (some (.ref wa)) (some (.ref rwA)) (some (vi turnN)) (some (vi kind)) (some (vi num)) (some (.ref knA)) trV (some (.ref P)))) :: (clW L (some (.ref duA)) (some (.ref ha)) (some (.ref r.hr)) (some (vs name)) roV feV (some (vi F)) (some (.ref seenA)) (some (.ref tbA)) ++ ((bx, ListI (xs.map vi)) :: (tbA, ListI (t.map vi)) :: (rwA, ListI (roL rows)) :: tl))) s' → Q .next s') :
   wpAny (model PP w) A (execs ((forBody (body.drop 9)).drop 10) (lenv fa L nm ps body sc doc pm (.ref 405))) Q E s := by
  cases hf
  have hA1 := hA
  refine (show (let env : Env := lenv fa L _ _ _ _ doc pm (.ref 405); wpAny (model PP w) A (execs (_ :: _) env) Q E s) from ?_)
  intro env
  simp only [List.cons_append, List.nil_append] at H
  have hu := unis hA1 (by decide)
  have hlen : (roL rows).length = rows.length := List.length_map _
  iterate 3 walk1
  refine lc_eval (cl := [("ring", L + 3)]) rfl rfl (by decide) ?_
  iterate 2 walk1
  rename_i it1 hit1
  refine lc_go1 (nx_list rwA (roL rows) hit1) hA1.hd (fun i ys l => ∃ us : List Addr, ys = us.map .ref ∧ us.length = i ∧ l = rowIts false us ((rows.take i).map thr) ++ ((L, NsI (frW (some (.ref sl)) (some (.ref bx)) (some (.ref wa)) (some (.ref rwA)) (some (vi turnN)) (some (vi kind)) (some (vi num)) (some (.ref knA)) trV (some (.ref P)))) :: (clW L (some (.ref duA)) (some (.ref ha)) (some (.ref r.hr)) (some (vs name)) roV feV (some (vi F)) (some (.ref seenA)) (some (.ref tbA)) ++ ((bx, ListI (xs.map vi)) :: (tbA, ListI (t.map vi)) :: (rwA, ListI (roL rows)) :: tl)))) ?_ (by decide) rfl rfl (by omega) (fun Q' E' its' s' H' h' => self_list H' h') ⟨[], rfl, rfl, rfl⟩ H ?_ ?_
  · rintro i ys l p q ⟨us, _, _, rfl⟩
    walk_at "mb"
  · rintro i v ys l cf D s E' hi ⟨X, hX, he⟩ ⟨us, rfl, hus, rfl⟩ hyl H QI hQI
    obtain ⟨hi', rfl, hri'⟩ := ro_at hri hi hX he
    have hstep : rows.take (i + 1) = rows.take i ++ [rows[i]] := by rw [List.take_add_one, List.getElem?_eq_getElem hi']; rfl
    simp only [List.cons_append, List.nil_append] at H
    obtain ⟨na, hna1, hna2⟩ := nl_at (w := w) (ha := ha) (wa := wa) (r := r) l5 (List.getElem_mem hi')
    have hna2 := hrg _ hna2
    have hno := hrg (r.nodes, DictI (sk PP w) (nlK st.nl) none) (by simp [rgIts])
    have hw1 := cf_v rows[i].cf
    have hw2 := cf_port rows[i].cf
    have hw3 := cf_host rows[i].cf
    repeat' walk1
    rename_i tp
    have hus2 : us.length = ((rows.take i).map thr).length := by rw [List.length_map, List.length_take, hus]; omega
    refine hQI _ _ _ ⟨us ++ [tp], by rw [List.map_append]; rfl, by rw [List.length_append, hus]; rfl, rfl⟩ ?_
    have e9 : (rows.take (i + 1)).map thr = (rows.take i).map thr ++ [thr rows[i]] := by rw [hstep, List.map_append]; rfl
    rw [e9, rowIts_snoc hus2, List.append_assoc]
    have H := S.pick (ps := [(cf, _), (D, _), (it1, _)]) H (by walk_at "pick") (List.Sublist.refl _)
    exact H.perm (List.Perm.append_left [_, _, _] List.perm_middle.symm)
  rintro ys l cf X D1 s ⟨us1, rfl, hus1, rfl⟩ hyl hcf H
  refine post_none H hcf fun s H => ?_
  obtain ⟨W, hW⟩ : ∃ W, W = rowIts false us1 ((rows.take (roL rows).length).map thr) := ⟨_, rfl⟩
  rw [← hW] at H
  simp only [List.cons_append, List.nil_append] at H
  refine lc_eval (cl := []) rfl rfl (by decide) ?_
  iterate 2 walk1
  rename_i it2 hit2
  refine lc_go1 (nx_list rwA (roL rows) hit2) hA1.hd (fun i ys l => ∃ us : List Addr, ys = us.map .ref ∧ us.length = i ∧ l = rowIts false us ((rows.take i).map thr) ++ ((D1, ListI (us1.map .ref)) :: (W ++ ((L, NsI (frW (some (.ref sl)) (some (.ref bx)) (some (.ref wa)) (some (.ref rwA)) (some (vi turnN)) (some (vi kind)) (some (vi num)) (some (.ref knA)) trV (some (.ref P)))) :: (clW L (some (.ref duA)) (some (.ref ha)) (some (.ref r.hr)) (some (vs name)) roV feV (some (vi F)) (some (.ref seenA)) (some (.ref tbA)) ++ ((bx, ListI (xs.map vi)) :: (tbA, ListI (t.map vi)) :: (rwA, ListI (roL rows)) :: tl)))))) ?_ (by decide) rfl rfl (by omega) (fun Q' E' its' s' H' h' => self_list H' h') ⟨[], rfl, rfl, rfl⟩ H ?_ ?_
  · rintro i ys l p q ⟨us, _, _, rfl⟩
    walk_at "mb"
  · rintro i v ys l cf D s E' hi ⟨X, hX, he⟩ ⟨us, rfl, hus, rfl⟩ hyl H QI hQI
    obtain ⟨hi', rfl, hri'⟩ := ro_at hri hi hX he
    have hstep : rows.take (i + 1) = rows.take i ++ [rows[i]] := by rw [List.take_add_one, List.getElem?_eq_getElem hi']; rfl
    simp only [List.cons_append, List.nil_append] at H
    repeat' walk1
    rename_i tp
    have hus2 : us.length = ((rows.take i).map thr).length := by rw [List.length_map, List.length_take, hus]; omega
    refine hQI _ _ _ ⟨us ++ [tp], by rw [List.map_append]; rfl, by rw [List.length_append, hus]; rfl, rfl⟩ ?_
    have e9 : (rows.take (i + 1)).map thr = (rows.take i).map thr ++ [thr rows[i]] := by rw [hstep, List.map_append]; rfl
    rw [e9, rowIts_snoc hus2, List.append_assoc]
    have H := S.pick (ps := [(cf, _), (D, _), (it2, _)]) H (by walk_at "pick") (List.Sublist.refl _)
    exact H.perm (List.Perm.append_left [_, _, _] List.perm_middle.symm)
  rintro ys l cf X D2 s ⟨us2, rfl, hus2, rfl⟩ hyl hcf H
  refine post_none H hcf fun s H => ?_
  have hsk : ∀ row ∈ (rows.take (roL rows).length).map thr, ∀ v ∈ row, Sk v := fun row hrow v hv => by
    obtain ⟨q, hq, rfl⟩ := List.mem_map.mp hrow
    have hq := hro q (List.mem_of_mem_take hq)
    unfold thr at hv
    rcases List.mem_cons.mp hv with rfl | hv
    · exact .inr (.inl ⟨_, rfl⟩)
    rcases List.mem_cons.mp hv with rfl | hv
    · exact .inr (.inl ⟨_, rfl⟩)
    rw [List.mem_singleton] at hv; subst hv
    exact .inr (.inr ⟨_, rfl, hq.ho⟩)
  have hlt : ((rows.take (roL rows).length).map thr).length = (roL rows).length := by rw [List.length_map, List.length_take]; omega
  refine r_ne_data (by walk_at "st") hu.2 (rfl : er _ = .ref D1) (rfl : er _ = .ref D2) (den_rows (T := false) (ds := (rows.take (roL rows).length).map thr) (by rw [hus1, hlt]) (by walk_at "mb") (fun p hp => .tail _ (List.mem_append_right _ (.tail _ (List.mem_append_left _ (by rw [hW]; exact hp))))) hsk) (den_rows (T := false) (ds := (rows.take (roL rows).length).map thr) (by rw [hus2, hlt]) (by walk_at "mb") (fun p hp => .tail _ (List.mem_append_left _ hp)) hsk) (okd_rows hsk) (okd_rows hsk) (fun _ => ?_) (fun e => absurd rfl e)
  repeat' walk1
  exact hQ _ (H.mono ((((List.sublist_append_right _ _).cons _).trans (List.sublist_append_right _ _)).cons _))



theorem allP_take (F : Int) (rows : List Ro) (i : Nat) : (allP F (rows.take i)).length ≤ (allP F rows).length := by
  have : allP F rows = allP F (rows.take i) ++ allP F (rows.drop i) := by
    unfold allP; rw [← List.flatMap_append, List.take_append_drop]
  rw [this, List.length_append]; exact Nat.le_add_right _ _
/-- the law's ledger between two turns -/
inductive Lp (w : World) (L sl bx ha c' wa c2 tbA seenA : Addr) (fd fd2 : FuncData) (q q2 : Str) (F : Int) (r : Rg) (tab : Array Value) (b : Nat) (l : List Item) : Prop where
  | mk (xs : List Int) (rwA duA : Addr) (t : List Int) (rows : List Ro) (st : RS) (d g : List (Addr × Cf)) (tuV kiV nuV knV trV ptV naV roV feV : Option Value) (h0 : xs.length ≤ 63) (h1 : t.length = 3) (h2 : (∀ x ∈ t, 1 ≤ x ∧ x ≤ 4)) (h3 : L5 F st rows) (h4 : d.map (·.2) = g.map (·.2)) (h5 : g.length ≤ b) (h6 : (∀ c ∈ g.map (·.2), CfOk c)) (h7 : l = (L, NsI (frW (some (.ref sl)) (some (.ref bx)) (some (.ref wa)) (some (.ref rwA)) tuV kiV nuV knV trV ptV)) :: (clW L (some (.ref duA)) (some (.ref ha)) (some (.ref r.hr)) naV roV feV (some (vi F)) (some (.ref seenA)) (some (.ref tbA)) ++ ((bx, ListI (xs.map vi)) :: (tbA, ListI (t.map vi)) :: (rwA, ListI (roL rows)) :: (ha, FnI fd) :: (c', CodeI q) :: (wa, FnI fd2) :: (c2, CodeI q2) :: (89, TabI #[]) :: (403, TabI tab) :: (duA, ListI ((d).map fun p => .ref p.1)) :: (roIts rows ++ (dT (d) ++ (rgIts w ha wa r st ++ toldIts seenA g)))))) : Lp w L sl bx ha c' wa c2 tbA seenA fd fd2 q q2 F r tab b l
/-- one turn -/
theorem segTurn (w : World) (C : Cx) (hB : Bs PP w (hK w.params) gl C) (fa L sl : Addr)
   (nm : Str) (ps : Arguments) (body : List Stmt) (ds : List Expr) (rt : Option Expr) (tp : List TypeParam) (sc : Scope) (ts : Option Scope) (bd : Str) (pos : Pos) (hf : f1 11 = .FunctionDef nm ps body ds rt tp sc ts bd pos) (doc pm : Value)
   (F : Int) (hF : 1 ≤ F ∧ F ≤ 100) (xs : List Int) (hx : xs.length ≤ 63) (bx ha c' wa c2 tbA rwA duA seenA : Addr) (fd fd2 : FuncData) (q q2 : Str) (r : Rg) (t : List Int) (ht : t.length = 3) (htb : ∀ x ∈ t, 1 ≤ x ∧ x ≤ 4) (rows : List Ro)
   (tab : Array Value) (itA : Addr) (itP : Obj → Prop) (hh : HOk w C ha (choIts ha (L + 7) c' F fd) (choH F) choDom) (hw : ∀ t : List Int, t.length = 3 → WOk w C wa (wsOf wa c2 seenA tbA (L + 8) (L + 9) t fd2) seenA (tabAt t) domW) (hq : q = fd.qualname) (hq2 : q2 = fd2.qualname)
   (st : RS) (l5 : L5 F st rows) (d g : List (Addr × Cf)) (hdg : d.map (·.2) = g.map (·.2)) (b : Nat) (hgl : g.length ≤ b) (hb : b ≤ 900) (hck : ∀ c ∈ g.map (·.2), CfOk c)
   (turnN : Nat) (kiV nuV knV trV ptV naV roV feV : Option Value)
   (A : Around) (s : Shared) (Q : Flow → Shared → Prop) (E : Value → Shared → Prop) (hA : Rm A 60 200)
   (H : S C ((itA, itP) :: ((L, NsI (frW (some (.ref sl)) (some (.ref bx)) (some (.ref wa)) (some (.ref rwA)) (some (vi turnN)) kiV nuV knV trV ptV)) :: (clW L (some (.ref duA)) (some (.ref ha)) (some (.ref r.hr)) naV roV feV (some (vi F)) (some (.ref seenA)) (some (.ref tbA)) ++ ((bx, ListI (xs.map vi)) :: (tbA, ListI (t.map vi)) :: (rwA, ListI (roL rows)) :: (ha, FnI fd) :: (c', CodeI q) :: (wa, FnI fd2) :: (c2, CodeI q2) :: (89, TabI #[]) :: (403, TabI tab) :: (duA, ListI ((d).map fun p => .ref p.1)) :: (roIts rows ++ (dT (d) ++ (rgIts w ha wa r st ++ toldIts seenA g))))))) s)
   (hQb : ∀ l s', Lp w L sl bx ha c' wa c2 tbA seenA fd fd2 q q2 F r tab b l → S C ((itA, itP) :: l) s' → Q .brk s')
   (hQ : ∀ l s', Lp w L sl bx ha c' wa c2 tbA seenA fd fd2 q q2 F r tab (b + 3) l → S C ((itA, itP) :: l) s' → Q .next s') :
   wpAny (model PP w) A (execs (forBody (body.drop 9)) (lenv fa L nm ps body sc doc pm (.ref 405))) Q E s := by
  have hri : ∀ (rows : List Ro) (d : List (Addr × Cf)) (st : RS) (g : List (Addr × Cf)) (duA : Addr), ∀ p ∈ roIts rows, p ∈ (89, TabI #[]) :: (403, TabI tab) :: (itA, itP) :: (duA, ListI ((d).map fun p => .ref p.1)) :: (roIts rows ++ (dT (d) ++ (rgIts w ha wa r st ++ toldIts seenA g))) := fun _ _ _ _ _ p hp => .tail _ (.tail _ (.tail _ (.tail _ (List.mem_append_left _ hp))))
  have hrg : ∀ (rows : List Ro) (d : List (Addr × Cf)) (st : RS) (g : List (Addr × Cf)) (duA : Addr), ∀ p ∈ rgIts w ha wa r st, p ∈ (89, TabI #[]) :: (403, TabI tab) :: (itA, itP) :: (duA, ListI ((d).map fun p => .ref p.1)) :: (roIts rows ++ (dT (d) ++ (rgIts w ha wa r st ++ toldIts seenA g))) := fun _ _ _ _ _ p hp => .tail _ (.tail _ (.tail _ (.tail _ (List.mem_append_right _ (List.mem_append_right _ (List.mem_append_left _ hp))))))
  have H : S C ((L, NsI (frW (some (.ref sl)) (some (.ref bx)) (some (.ref wa)) (some (.ref rwA)) (some (vi turnN)) kiV nuV knV trV ptV)) :: (clW L (some (.ref duA)) (some (.ref ha)) (some (.ref r.hr)) naV roV feV (some (vi F)) (some (.ref seenA)) (some (.ref tbA)) ++ ((bx, ListI (xs.map vi)) :: (tbA, ListI (t.map vi)) :: (rwA, ListI (roL rows)) :: (ha, FnI fd) :: (c', CodeI q) :: (wa, FnI fd2) :: (c2, CodeI q2) :: (89, TabI #[]) :: (403, TabI tab) :: (itA, itP) :: (duA, ListI ((d).map fun p => .ref p.1)) :: (roIts rows ++ (dT (d) ++ (rgIts w ha wa r st ++ toldIts seenA g)))))) s := H.perm (List.perm_middle (l₁ := [_, _, _, _, _, _, _, _, _, _, _, _, _, _, _, _, _, _, _])).symm
  refine segT1 w C hB fa L sl nm ps body ds rt tp sc ts bd pos hf doc pm F hF xs hx bx ha c' wa c2 tbA rwA duA seenA fd fd2 q q2 r t ht htb rows l5.ro l5.len turnN _ (fun p hp => .tail _ (.tail _ (.tail _ (.tail _ (hri rows d st g duA p hp))))) kiV nuV knV trV ptV naV roV feV A s Q E hA H (fun _ s H => ?_) fun kind num name xs' knA s hx' hk0 hna H => ?_
  · exact hQb _ s ⟨xs, rwA, duA, t, rows, st, d, g, some (vi turnN), kiV, nuV, knV, trV, ptV, naV, roV, feV, hx, ht, htb, l5, hdg, hgl, hck, rfl⟩ (H.perm (List.perm_middle (l₁ := [_, _, _, _, _, _, _, _, _, _, _, _, _, _, _, _, _, _, _])))
  refine segT2 w C hB fa L sl nm ps body ds rt tp sc ts bd pos hf doc pm F hF xs' hx' bx ha c' wa c2 tbA rwA duA seenA fd fd2 q q2 r t ht htb rows l5.ro l5.len tab itA itP hh hw hq hq2 st l5 d g hdg (by omega) hck turnN kind num name hna knA trV ptV roV feV hk0 A s Q E hA H fun s hx2 => ?_
  obtain ⟨rows', rwA', duA', t', st', d', g', name', trV', roV', feV', ht', htb', l5', hdg', hgl', hck', hna', H⟩ := hx2
  refine segT3 w C hB fa L sl nm ps body ds rt tp sc ts bd pos hf doc pm F hF xs' hx' bx ha c' wa c2 tbA rwA' duA' seenA fd fd2 q q2 r t' ht' htb' rows' l5'.ro l5'.len hh hq turnN kind num name' knA trV' ptV roV' feV' _ (fun p hp => .tail _ (.tail _ (.tail _ (.tail _ (hri rows' d' st' g' duA' p hp))))) (.head _) (.tail _ (.head _)) (l5'.allP_len hF) (fun i => Nat.le_trans (allP_take F rows' i) (l5'.allP_len hF)) A s Q E hA H fun P ts roV2 s hts H => ?_
  refine segT4 w C hB fa L sl nm ps body ds rt tp sc _ bd pos hf doc pm F hF xs' hx' bx ha c' wa c2 tbA rwA' duA' seenA fd fd2 q q2 r t' ht' htb' rows' l5'.ro l5'.len turnN kind num name' knA P trV' roV2 feV' _ (fun p hp => .tail _ (.tail _ (.tail _ (.tail _ (hri rows' d' st' g' duA' p hp))))) st' l5' (fun p hp => .tail _ (.tail _ (.tail _ (.tail _ (hrg rows' d' st' g' duA' p hp))))) ts hts A s Q E hA H fun s H => ?_
  refine segT5 w C hB fa L sl nm ps body ds rt tp sc _ bd pos hf doc pm F hF xs' hx' bx ha c' wa c2 tbA rwA' duA' seenA fd fd2 q q2 r t' ht' htb' rows' l5'.ro l5'.len turnN kind num name' knA P trV' roV2 feV' _ (fun p hp => .tail _ (.tail _ (.tail _ (.tail _ (hri rows' d' st' g' duA' p hp))))) st' l5' (fun p hp => .tail _ (.tail _ (.tail _ (.tail _ (hrg rows' d' st' g' duA' p hp))))) A s Q E hA H fun s H => ?_
  exact hQ _ s ⟨xs', rwA', duA', t', rows', st', d', g', some (vi turnN), some (vi kind), some (vi num), some (.ref knA), trV', some (.ref P), some (vs name'), roV2, feV', hx', ht', htb', l5', hdg', by omega, hck', rfl⟩ (H.perm (List.perm_middle (l₁ := [_, _, _, _, _, _, _, _, _, _, _, _, _, _, _, _, _, _, _])))



theorem Lp.mono {w : World} {L sl bx ha c' wa c2 tbA seenA : Addr} {fd fd2 : FuncData} {q q2 : Str} {F : Int} {r : Rg} {tab : Array Value} {b b' : Nat} {l : List Item} (h : Lp w L sl bx ha c' wa c2 tbA seenA fd fd2 q q2 F r tab b l) (hb : b ≤ b') : Lp w L sl bx ha c' wa c2 tbA seenA fd fd2 q q2 F r tab b' l := by
  obtain ⟨xs, rwA, duA, t, rows, st, d, g, tuV, kiV, nuV, knV, trV, ptV, naV, roV, feV, h1, h2, h3, h4, h5, h6, h7, h8⟩ := h
  exact ⟨xs, rwA, duA, t, rows, st, d, g, tuV, kiV, nuV, knV, trV, ptV, naV, roV, feV, h1, h2, h3, h4, h5, Nat.le_trans h6 hb, h7, h8⟩
/-- all turns -/
theorem segLoop (w : World) (C : Cx) (hB : Bs PP w (hK w.params) gl C) (fa L sl : Addr)
   (nm : Str) (ps : Arguments) (body : List Stmt) (ds : List Expr) (rt : Option Expr) (tp : List TypeParam) (sc : Scope) (ts : Option Scope) (bd : Str) (pos : Pos) (hf : f1 11 = .FunctionDef nm ps body ds rt tp sc ts bd pos) (doc pm : Value)
   (F : Int) (hF : 1 ≤ F ∧ F ≤ 100) (bx ha c' wa c2 tbA seenA : Addr) (fd fd2 : FuncData) (q q2 : Str) (r : Rg) (tab : Array Value) (hh : HOk w C ha (choIts ha (L + 7) c' F fd) (choH F) choDom) (hw : ∀ t : List Int, t.length = 3 → WOk w C wa (wsOf wa c2 seenA tbA (L + 8) (L + 9) t fd2) seenA (tabAt t) domW) (hq : q = fd.qualname) (hq2 : q2 = fd2.qualname)
   (A : Around) (s : Shared) (Q : Flow → Shared → Prop) (E : Value → Shared → Prop) (hA : Rm A 60 200) (l0 : List Item) (h0 : Lp w L sl bx ha c' wa c2 tbA seenA fd fd2 q q2 F r tab 0 l0)
   (H : S C l0 s)
   (hQ : ∀ l s', Lp w L sl bx ha c' wa c2 tbA seenA fd fd2 q q2 F r tab 21 l → S C l s' → wpAny (model PP w) A (execs (body.drop 10) (lenv fa L nm ps body sc doc pm (.ref 405))) Q E s') :
   wpAny (model PP w) A (execs (body.drop 9) (lenv fa L nm ps body sc doc pm (.ref 405))) Q E s := by
  cases hf
  have hA1 := hA
  refine (show (let env : Env := lenv fa L _ _ _ _ doc pm (.ref 405); wpAny (model PP w) A (execs (_ :: _) env) Q E s) from ?_)
  intro env
  iterate 10 walk1
  rename_i rgR it hit
  refine for_nxB (nx_range 0 7 hit) hA1.hd (fun i l => Lp w L sl bx ha c' wa c2 tbA seenA fd fd2 q q2 F r tab (3 * i) l) (fun l => Lp w L sl bx ha c' wa c2 tbA seenA fd fd2 q q2 F r tab 21 l) (fun _ _ _ => trivial) h0 (H.mono (List.Sublist.cons_cons _ (List.sublist_cons_self _ _))) ?_ ?_ ?_
  · rintro i v l s E' hi ⟨u, rfl⟩ ⟨xs, rwA, duA, t, rows, st, d, g, tuV, kiV, nuV, knV, trV, ptV, naV, roV, feV, h1, h2, h3, h4, h5, h6, h7, rfl⟩ H QI hQI
    rw [Int.zero_add] at *
    iterate 1 walk1
    refine segTurn w C hB fa L sl _ _ _ _ _ _ _ _ _ _ rfl doc pm F hF xs h1 bx ha c' wa c2 tbA rwA duA seenA fd fd2 q q2 r t h2 h3 rows tab it _ hh hw hq hq2 st h4 d g h5 (3 * i) h6 (by omega) h7 i kiV nuV knV trV ptV naV roV feV A s QI E' hA H (fun l s hl H => ?_) fun l s hl H => ?_
    · exact hQI _ _ ⟨rfl, l, hl.mono (by omega), H.tail⟩
    · exact hQI _ _ ⟨l, hl, H⟩
  · intro l s hl H
    exact hQ l s hl H
  · intro l s E' hl H
    walk1
    exact hQ l s hl H



theorem tup_at {ts : List Addr} {ds : List (List Value)} {i : Nat} (h1 : i < ts.length) (h2 : i < ds.length) : (ts[i], TupI ds[i]) ∈ tupIts ts ds := by
  unfold tupIts
  refine List.mem_map.mpr ⟨(ts[i], ds[i]), ?_, rfl⟩
  have h3 : i < (ts.zip ds).length := by rw [List.length_zip]; omega
  have := List.getElem_mem h3
  rw [List.getElem_zip] at this
  exact this
theorem den_row1 {its : List Item} {t : Addr} {row : List Value} (hs : ∀ v ∈ row, Sk v) (hm : (t, TupI row) ∈ its) : Den its (rowD true row) (.ref t) := by
  show Den its (.tuple (row.map toD)) _
  rw [Den]; exact ⟨t, row, rfl, hm, dens_sk its row hs⟩
theorem okd_row1 {row : List Value} (hs : ∀ v ∈ row, Sk v) : OkD (rowD true row) := by
  obtain ⟨h1, h2⟩ := okds_sk row hs
  show OkD (.tuple (row.map toD))
  exact ⟨by rw [okD]; exact h1, by rw [PyData.depth, h2]; decide⟩
/-- what was told and what was due are the same -/
theorem segRet (w : World) (C : Cx) (hB : Bs PP w (hK w.params) gl C) (fa L sl : Addr)
   (nm : Str) (ps : Arguments) (body : List Stmt) (ds : List Expr) (rt : Option Expr) (tp : List TypeParam) (sc : Scope) (ts : Option Scope) (bd : Str) (pos : Pos) (hf : f1 11 = .FunctionDef nm ps body ds rt tp sc ts bd pos) (doc pm : Value)
   (F : Int) (hF : 1 ≤ F ∧ F ≤ 100) (bx ha c' wa c2 tbA seenA : Addr) (fd fd2 : FuncData) (q q2 : Str) (r : Rg) (tab : Array Value) (hh : HOk w C ha (choIts ha (L + 7) c' F fd) (choH F) choDom) (hw : ∀ t : List Int, t.length = 3 → WOk w C wa (wsOf wa c2 seenA tbA (L + 8) (L + 9) t fd2) seenA (tabAt t) domW) (hq : q = fd.qualname) (hq2 : q2 = fd2.qualname)
   (A : Around) (s : Shared) (Q : Flow → Shared → Prop) (E : Value → Shared → Prop) (hA : Rm A 60 200) (l0 : List Item) (h0 : Lp w L sl bx ha c' wa c2 tbA seenA fd fd2 q q2 F r tab 21 l0)
   (H : S C l0 s)
   (hQ : ∀ s', S C [(89, TabI #[]), (403, TabI tab)] s' → Q (.ret (.bool true)) s') :
   wpAny (model PP w) A (execs (body.drop 10) (lenv fa L nm ps body sc doc pm (.ref 405))) Q E s := by
  obtain ⟨xs, rwA, duA, t, rows, st, d, g, tuV, kiV, nuV, knV, trV, ptV, naV, roV, feV, h1, h2, h3, h4, h5, h6, h7, rfl⟩ := h0
  obtain ⟨dA, gA, gC, hdl, hgl, hgz, hskC, H⟩ : ∃ (dA gA : List Addr) (gC : List (List Value)), dA.length = gC.length ∧ gA.length = gC.length ∧ gC.length ≤ 21 ∧ (∀ row ∈ gC, ∀ v ∈ row, Sk v) ∧ S C ((L, NsI (frW (some (.ref sl)) (some (.ref bx)) (some (.ref wa)) (some (.ref rwA)) tuV kiV nuV knV trV ptV)) :: (clW L (some (.ref duA)) (some (.ref ha)) (some (.ref r.hr)) naV roV feV (some (vi F)) (some (.ref seenA)) (some (.ref tbA)) ++ ((89, TabI #[]) :: (403, TabI tab) :: (duA, ListI (dA.map .ref)) :: (seenA, ListI (gA.map .ref)) :: (tupIts dA gC ++ tupIts gA gC)))) s := by
    refine ⟨d.map (·.1), g.map (·.1), (g.map (·.2)).map tupC, ?_, ?_, ?_, ?_, ?_⟩
    · have := congrArg List.length h5
      rw [List.length_map, List.length_map] at this
      rw [List.length_map, List.length_map, List.length_map, this]
    · rw [List.length_map, List.length_map, List.length_map]
    · rw [List.length_map, List.length_map]; exact h6
    · intro row hr
      obtain ⟨c, hc, rfl⟩ := List.mem_map.mp hr
      exact h7 c hc
    · have e1 : dT d = tupIts (d.map (·.1)) ((g.map (·.2)).map tupC) := by rw [← h5]; exact told_tups d
      have e2 : (d.map fun p => Value.ref p.1) = (d.map (·.1)).map .ref := by rw [List.map_map]; rfl
      rw [told_rows, e1, e2] at H
      simp only [List.cons_append, List.nil_append] at H
      have H := H.perm (List.Perm.append_left [_, _, _, _, _, _, _, _, _, _, _, _, _, _, _, _, _, _, _, _] (show (roIts rows ++ (tupIts (d.map (·.1)) ((g.map (·.2)).map tupC) ++ (rgIts w ha wa r st ++ ((seenA, ListI ((g.map (·.1)).map .ref)) :: tupIts (g.map (·.1)) ((g.map (·.2)).map tupC))))).Perm ((seenA, ListI ((g.map (·.1)).map .ref)) :: (roIts rows ++ (rgIts w ha wa r st ++ (tupIts (d.map (·.1)) ((g.map (·.2)).map tupC) ++ tupIts (g.map (·.1)) ((g.map (·.2)).map tupC))))) from by
        refine (List.Perm.append_left _ (List.perm_append_comm_assoc _ _ _)).trans ?_
        refine (List.Perm.append_left _ (List.Perm.append_left _ List.perm_middle)).trans ?_
        refine (List.Perm.append_left _ List.perm_middle).trans ?_
        exact List.perm_middle))
      simp only [List.cons_append, List.nil_append] at H
      have H := S.pick (ps := [(L, _), (L + 9, _), (L + 8, _), (L + 7, _), (L + 6, _), (L + 5, _), (L + 4, _), (L + 3, _), (L + 2, _), (L + 1, _), (89, _), (403, _), (duA, _), (seenA, _)]) H (by walk_at "pick") (List.Sublist.refl _)
      have H := S.mono H (List.Sublist.append_left ((((((((List.sublist_append_right _ _).trans (List.sublist_append_right _ _)).cons _).cons _).cons _).cons _).cons _).cons _ |>.cons _) _)
      exact H
  cases hf
  have hA1 := hA
  refine (show (let env : Env := lenv fa L _ _ _ _ doc pm (.ref 405); wpAny (model PP w) A (execs (_ :: _) env) Q E s) from ?_)
  intro env
  simp only [List.cons_append, List.nil_append] at H
  have hu : A.units + 66 < cLine ∧ A.units + 64 < cLine := by have := hA1.un; omega
  have hff : ¬ false = true := Bool.false_ne_true
  iterate 4 walk1
  refine lc_eval (cl := [("due", L + 1)]) rfl rfl (by decide) ?_
  iterate 2 walk1
  rename_i it1 hit1
  refine lc_go (nx_list seenA (gA.map .ref) hit1) hA1.hd (fun i ys l => ys = [] ∧ l = (L, NsI (frW (some (.ref sl)) (some (.ref bx)) (some (.ref wa)) (some (.ref rwA)) tuV kiV nuV knV trV ptV)) :: (clW L (some (.ref duA)) (some (.ref ha)) (some (.ref r.hr)) naV roV feV (some (vi F)) (some (.ref seenA)) (some (.ref tbA)) ++ ((89, TabI #[]) :: (403, TabI tab) :: (duA, ListI (dA.map .ref)) :: (seenA, ListI (gA.map .ref)) :: (tupIts dA gC ++ tupIts gA gC)))) ?_ (by decide) rfl rfl (by rw [List.length_map]; omega) (fun Q' E' its' s' H' h' => self_list H' h') ⟨rfl, rfl⟩ H ?_ ?_
  · rintro i ys l p q ⟨_, rfl⟩
    walk_at "mb"
  · rintro i v ys l cf D s E' hi ⟨X, hX, he⟩ ⟨rfl, rfl⟩ hyl H
    have hi' : i < gA.length := by rw [List.length_map] at hi; exact hi
    have hiC : i < gC.length := by omega
    rw [List.getElem?_map, List.getElem?_eq_getElem hi'] at hX
    cases hX
    obtain rfl := er_ref he
    have hmt : (gA[i], TupI gC[i]) ∈ tupIts gA gC := tup_at hi' hiC
    simp only [List.cons_append, List.nil_append] at H
    refine wpAny_tests_one ?_
    iterate 3 walk1
    refine r_notIn_data (a := .none) (by walk_at "st") hu.1 (rfl : er _ = .ref gA[i]) (den_rows (T := true) (ts := dA) (ds := gC) (by omega) (by walk_at "mb") (fun p hp => by repeat (first | exact List.mem_append_left _ hp | exact List.mem_append_right _ hp | apply List.Mem.tail)) hskC) (den_row1 (hskC _ (List.getElem_mem hiC)) (by have hp := hmt; repeat (first | exact List.mem_append_left _ hp | exact List.mem_append_right _ hp | apply List.Mem.tail))) (okd_rows hskC) (okd_row1 (hskC _ (List.getElem_mem hiC))) (fun _ => ?_) (fun e => absurd (List.mem_map.mpr ⟨_, List.getElem_mem hiC, rfl⟩) e)
    iterate 2 walk1
    exact ⟨_, ⟨by trivial, rfl⟩, S.tkTo H rfl rfl rfl⟩
  rintro ys l cf X D1 s ⟨rfl, rfl⟩ hyl hcf H
  refine post_none H hcf fun s H => ?_
  simp only [List.cons_append, List.nil_append] at H
  iterate 3 walk1
  have hnil : ∀ v ∈ ([] : List Value), Sk v := fun v h => nomatch h
  refine r_eq_data (by walk_at "st") hu.2 (rfl : er _ = .ref D1) (rfl : er _ = .ref _) (den_flat (row := []) (by walk_at "mb") hnil) (den_flat (row := []) (by walk_at "mb") hnil) (okd_flat hnil) (okd_flat hnil) (fun _ => ?_) (fun e => absurd rfl e)
  have H : S C ((L, NsI (frW (some (.ref sl)) (some (.ref bx)) (some (.ref wa)) (some (.ref rwA)) tuV kiV nuV knV trV ptV)) :: (clW L (some (.ref duA)) (some (.ref ha)) (some (.ref r.hr)) naV roV feV (some (vi F)) (some (.ref seenA)) (some (.ref tbA)) ++ ((89, TabI #[]) :: (403, TabI tab) :: (duA, ListI (dA.map .ref)) :: (seenA, ListI (gA.map .ref)) :: (tupIts dA gC ++ tupIts gA gC)))) s := H.mono ((List.sublist_cons_self _ _).cons _)
  simp only [List.cons_append, List.nil_append] at H
  iterate 4 walk1
  refine lc_eval (cl := [("seen", L + 8)]) rfl rfl (by decide) ?_
  iterate 2 walk1
  rename_i it2 hit2
  refine lc_go (nx_list duA (dA.map .ref) hit2) hA1.hd (fun i ys l => ys = [] ∧ l = (L, NsI (frW (some (.ref sl)) (some (.ref bx)) (some (.ref wa)) (some (.ref rwA)) tuV kiV nuV knV trV ptV)) :: (clW L (some (.ref duA)) (some (.ref ha)) (some (.ref r.hr)) naV roV feV (some (vi F)) (some (.ref seenA)) (some (.ref tbA)) ++ ((89, TabI #[]) :: (403, TabI tab) :: (duA, ListI (dA.map .ref)) :: (seenA, ListI (gA.map .ref)) :: (tupIts dA gC ++ tupIts gA gC)))) ?_ (by decide) rfl rfl (by rw [List.length_map]; omega) (fun Q' E' its' s' H' h' => self_list H' h') ⟨rfl, rfl⟩ H ?_ ?_
  · rintro i ys l p q ⟨_, rfl⟩
    walk_at "mb"
  · rintro i v ys l cf D s E' hi ⟨X, hX, he⟩ ⟨rfl, rfl⟩ hyl H
    have hi' : i < dA.length := by rw [List.length_map] at hi; exact hi
    have hiC : i < gC.length := by omega
    rw [List.getElem?_map, List.getElem?_eq_getElem hi'] at hX
    cases hX
    obtain rfl := er_ref he
    have hmt : (dA[i], TupI gC[i]) ∈ tupIts dA gC := tup_at hi' hiC
    simp only [List.cons_append, List.nil_append] at H
    refine wpAny_tests_one ?_
    iterate 3 walk1
    refine r_notIn_data (a := .none) (by walk_at "st") hu.1 (rfl : er _ = .ref dA[i]) (den_rows (T := true) (ts := gA) (ds := gC) (by omega) (by walk_at "mb") (fun p hp => by repeat (first | exact List.mem_append_left _ hp | exact List.mem_append_right _ hp | apply List.Mem.tail)) hskC) (den_row1 (hskC _ (List.getElem_mem hiC)) (by have hp := hmt; repeat (first | exact List.mem_append_left _ hp | exact List.mem_append_right _ hp | apply List.Mem.tail))) (okd_rows hskC) (okd_row1 (hskC _ (List.getElem_mem hiC))) (fun _ => ?_) (fun e => absurd (List.mem_map.mpr ⟨_, List.getElem_mem hiC, rfl⟩) e)
    iterate 2 walk1
    exact ⟨_, ⟨by trivial, rfl⟩, S.tkTo H rfl rfl rfl⟩
  rintro ys l cf X D2 s ⟨rfl, rfl⟩ hyl hcf H
  refine post_none H hcf fun s H => ?_
  simp only [List.cons_append, List.nil_append] at H
  iterate 3 walk1
  refine r_eq_data (by walk_at "st") hu.2 (rfl : er _ = .ref D2) (rfl : er _ = .ref _) (den_flat (row := []) (by walk_at "mb") hnil) (den_flat (row := []) (by walk_at "mb") hnil) (okd_flat hnil) (okd_flat hnil) (fun _ => ?_) (fun e => absurd rfl e)
  repeat' walk1
  exact hQ _ (S.pick (ps := [(89, _), (403, _)]) H (by walk_at "pick") (List.nil_sublist _))


theorem L5.nil {F : Int} {ka : Addr} (ok : StOk (rs0 ka)) : L5 F (rs0 ka) [] := by
  refine ⟨ok, ⟨fun p X => ?_, fun n => ?_, fun n c h => ?_⟩, rfl, fun r hr => nomatch hr⟩
  · simp [valueAt, roP]
  · simp [roP]
  · obtain ⟨r, hr, _⟩ := h; cases hr
/-- the whole law -/
theorem segAll (w : World) (C : Cx) (hB : Bs PP w (hK w.params) gl C) {p : Program} {loose : List Str} {mean : ExcName → Option Value} {mg mb : Str → Option Value} (T : Top p loose mean mg mb C.B) (hC : CodeHd C.B 405 403) (hbm : ∀ a ∈ C.tb, ∃ ps', C.B.get? a = some (tabObj ps')) (htb : C.tb = [89, 403])
   (fa L sl : Addr) (vals : List Value) (ns : List Int) (hsl : C.B.IsList sl vals.toArray) (hin : IntsAre vals ns) (hz : ns.length ≤ 63)
   (nm : Str) (ps : Arguments) (body : List Stmt) (ds : List Expr) (rt : Option Expr) (tp : List TypeParam) (sc : Scope) (ts : Option Scope) (bd : Str) (pos : Pos) (hf : f1 11 = .FunctionDef nm ps body ds rt tp sc ts bd pos) (doc pm : Value)
   (A : Around) (s : Shared) (Q : Flow → Shared → Prop) (E : Value → Shared → Prop) (hA : Rm A 60 200)
   (H : S C ((L, NsI (frW (some (.ref sl)) none none none none none none none none none)) :: (clW L none none none none none none none none none ++ [(89, TabI #[]), (403, TabI #[])])) s)
   (hQ : ∀ tab s', S C [(89, TabI #[]), (403, TabI tab)] s' → Q (.ret (.bool true)) s') :
   wpAny (model PP w) A (execs body (lenv fa L nm ps body sc doc pm (.ref 405))) Q E s := by
  refine segA w C hB T hC hbm htb fa L sl vals ns hsl hin hz nm ps body ds rt tp sc ts bd pos hf doc pm A s Q E hA H fun F xs bx ha c' wa c2 tbA seenA duA rwA fd fd2 tab r ka s hF1 hF2 hx hh hw ok H => ?_
  have h0 : Lp w L sl bx ha c' wa c2 tbA seenA fd fd2 fd.qualname fd2.qualname F r tab 0 _ :=
    ⟨xs, rwA, duA, [1, 2, 3], [], rs0 ka, [], [], none, none, none, none, none, none, none, none, none, hx, rfl, by intro x hx; simp at hx; omega, L5.nil ok, rfl, Nat.le_refl _, by simp, rfl⟩
  refine segLoop w C hB fa L sl nm ps body ds rt tp sc ts bd pos hf doc pm F ⟨hF1, hF2⟩ bx ha c' wa c2 tbA seenA fd fd2 _ _ r tab hh hw rfl rfl A s Q E hA _ h0 ?_ fun l s hl H => ?_
  · exact H.perm (List.Perm.append_left [_, _, _, _, _, _, _, _, _, _, _, _, _, _, _, _, _, _, _, _] (List.perm_append_comm (l₁ := [(seenA, ListI [])]) (l₂ := rgIts w ha wa r (rs0 ka))))
  · exact segRet w C hB fa L sl nm ps body ds rt tp sc ts bd pos hf doc pm F ⟨hF1, hF2⟩ bx ha c' wa c2 tbA seenA fd fd2 _ _ r tab hh hw rfl rfl A s Q E hA l hl H fun s H => hQ tab s H


theorem good_end {cw : ClaimW} {cl : Str → Option Addr} {mean : ExcName → Option Value} {args : List WData} {s₁ s : Shared} {tab : Array Value} (hr : ∀ c, cw.raises args c = false) (hp : cw.post args (.bool true) args = true)
    (H : S ⟨s₁.heap, [89, 403], s₁.os⟩ [(89, TabI #[]), (403, TabI tab)] s) :
    GoodW cw cl mean args { s₁ with heap := ghostOf s₁.heap [(93, 89), (405, 403)] } (.ok (.ret (.bool true))) s ∧ GrownAll [(93, 89), (405, 403)] s.heap := by
  refine ⟨⟨.inl ⟨_, .bool true, [], rfl, hr, .bool _, hp, fun _ => ⟨List.nodup_nil, fun a ha => nomatch ha⟩⟩, fun b o e => ?_, H.os, H.gens⟩, ?_, ?_, trivial⟩
  · refine H.keep b o (of_hideAll _ e) fun hm => ?_
    have := hideAll_none (h := s₁.heap) _ (show b ∈ ([(93, 89), (405, 403)] : List (Addr × Addr)).map (·.2) from hm)
    rw [this] at e; cases e
  · obtain ⟨o, ho, e⟩ := H.get (.head _)
    exact ⟨#[], ho.trans (congrArg some e)⟩
  · obtain ⟨o, ho, e⟩ := H.get (.tail _ (.head _))
    exact ⟨tab, ho.trans (congrArg some e)⟩
theorem law_said : OpenLaw.wellSaid PySem.Challenge.rw_iu0043_05 = true := by kernel_rfl
theorem t0 : PySem.Challenge.rw_iu0043_05.Holds := by
  w_on
  refine holds_law law_said fun said => ?_
  refine holds_open (q := VV) (loose := looseK) (Xt := XX) (XP := XL VV []) (Yf := HK.obs) (Ya := HK.val) (YP := (kmHook hK asK eK [89, 403]).says) top_left HK.of HK.keeps (fun s e => xl_of s (Bool.and_eq_true_iff.mp e).1) XL.keeps (by rfl) (by rfl) (by rfl) (fun s e => recFacts_of (Bool.and_eq_true_iff.mp e).2) (by rfl) (by assumption) (by decide +kernel) ⟨rfl, rfl, rfl, rfl, rfl, by decide +kernel⟩ ?hw ?hc
  case hw => w_witness2
  k_fill
  intro w s₀ s₁ mg mb G Y fa o pm cd doc dV kV ho hd hcd hD hmg hg args vals as hpre hlay hrd hwl hlo
  have KX := km_in_of Y
  km_tabs Y
  have X := (Ground.X G).1
  have V := (Ground.X G).2
  refine Ground.open G ?_
  intro T B D TE TW
  try (refine guard_noD D (by decide +kernel) ?_; clear D)
  km_lay T hmg ho hd cd
  wrow_args hpre hlay hrd hwl hlo
  all_goals (first | refine callC_kw (enter_call ?_) | refine enter_call ?_)
  all_goals (w_top on; kn_posts)
  rename Heap.IsList _ _ _ => hsl
  rename IntsAre _ _ => hints
  rename Addr => sl
  have hB := bs_of KX T
  have H := s_of T hT8 hg
  have hC := (hT9 (405, 403) (by simp)).1
  have hA : Rm callerA 61 203 := ⟨rfl, by decide +kernel, by decide +kernel⟩
  obtain rfl : dV = .none := (hD.pos.resolve_right fun h => h.1 rfl).2
  obtain rfl : kV = .none := (hD.kw.resolve_right fun h => h.1 rfl).2
  clear hD
  refine call_cellL (prog := PP) (fun L => clW L none none none none none none none none none) H hB ho hd hcd rfl hA (BindsTo.of_eq rfl) rfl (fun _ => by kernel_rfl) (loc := frW (some (.ref sl)) none none none none none none none none none) (by kernel_rfl) (fun _ => by kernel_rfl) (fun _ => by kernel_rfl) (fun _ => by kernel_rfl) ?_
  intro L s A1 E1 hA1 H env
  have hbm : ∀ a ∈ ([89, 403] : List Addr), ∃ ps', s₁.heap.get? a = some (tabObj ps') := fun a ha => ⟨_, hT8 a ha⟩
  refine segAll w ⟨s₁.heap, [89, 403], s₁.os⟩ hB T hC hbm rfl fa L sl _ _ hsl hints (by omega) _ _ _ _ _ _ _ _ _ _ rfl doc pm A1 s _ E1 hA1 H fun tab s' H' => ?_
  exact good_end (fun _ => rfl) (by kernel_rfl!) H'

end Mc

theorem PySem.Challenge.cw_iu0043_05_holds : PySem.Challenge.rw_iu0043_05.Holds :=
  Mc.t0
