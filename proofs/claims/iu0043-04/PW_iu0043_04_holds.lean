import PyProof.Rows.All
import Wide.All
import OpenK.AllK
import Wide.FinOn
import Lean
import PySem.Challenge.RW_iu0043_04
open PySem PySem.Spec PySem.Calls PyProof.Rows PySem.W
set_option Elab.async false
set_option maxRecDepth 100000
set_option maxHeartbeats 8000000
set_option linter.all false
set_option compiler.extract_closed false
set_option genSizeOf false
set_option genInjectivity false
namespace Mc

noncomputable def er : Value → Value
  | .int i _ => .int i 0
  | .str s _ => .str s 0
  | .bytes b _ => .bytes b 0
  | .float b _ => .float b 0
  | v => v

noncomputable def Ret (X : Value) (Q : Value → Shared → Prop) (s : Shared) : Prop := match X with
  | .int i _ => ∀ t, Q (.int i t) s
  | .str x _ => ∀ t, Q (.str x t) s
  | .bytes b _ => ∀ t, Q (.bytes b t) s
  | .float b _ => ∀ t, Q (.float b t) s
  | v => Q v s
theorem erInt {i : Int} {t : Tok} : er (.int i t) = .int i 0 := rfl
theorem erStr {i : Str} {t : Tok} : er (.str i t) = .str i 0 := rfl
theorem erRef {a : Addr} : er (.ref a) = .ref a := rfl
theorem erNone : er .none = .none := rfl
theorem erBool {b : Bool} : er (.bool b) = .bool b := rfl
theorem erTy {b : String} : er (.type b) = .type b := rfl
inductive ErL : List Value → List Value → Prop
  | nil : ErL [] []
  | cons {v X us vs} : er v = X → ErL us vs → ErL (v :: us) (X :: vs)
theorem ErL.eq {us vs : List Value} (h : ErL us vs) : us.map er = vs := by
  induction h with
  | nil => rfl
  | cons e _ ih => rw [List.map_cons, e, ih]
theorem Ret.int {i : Int} {u : Tok} {Q : Value → Shared → Prop} {s : Shared} (h : ∀ t, Q (.int i t) s) : Ret (.int i u) Q s := h
theorem Ret.str {x : Str} {u : Tok} {Q : Value → Shared → Prop} {s : Shared} (h : ∀ t, Q (.str x t) s) : Ret (.str x u) Q s := h
theorem Ret.ref {a : Addr} {Q : Value → Shared → Prop} {s : Shared} (h : Q (.ref a) s) : Ret (.ref a) Q s := h
theorem Ret.none {Q : Value → Shared → Prop} {s : Shared} (h : Q .none s) : Ret .none Q s := h
theorem Ret.bool {b : Bool} {Q : Value → Shared → Prop} {s : Shared} (h : Q (.bool b) s) : Ret (.bool b) Q s := h
theorem Ret.use {X v : Value} {Q : Value → Shared → Prop} {s : Shared} (h : Ret X Q s) (e : er v = X) : Q v s := by
  subst e
  cases v <;> first | exact h | exact h _

noncomputable abbrev Item := Addr × (Obj → Prop)

structure Cx where
  B : Heap
  tb : List Addr
  os : OsState
  g : Array GenState := #[]

structure S (C : Cx) (its : List Item) (s : Shared) : Prop where
  keep : ∀ b o, C.B.get? b = some o → b ∉ C.tb → s.heap.get? b = some o
  own : ∀ p ∈ its, ∃ o, s.heap.get? p.1 = some o ∧ p.2 o
  new : ∀ p ∈ its, C.B.get? p.1 = none ∨ p.1 ∈ C.tb
  nd : (its.map (·.1)).Nodup
  tbs : ∀ a ∈ C.tb, ∃ o, s.heap.get? a = some o
  gens : s.gens = C.g
  os : s.os = C.os
  big : ∃ b o, 1 < b ∧ C.B.get? b = some o ∧ b ∉ C.tb
  n1 : 1 ∉ its.map (·.1)

section
variable {C : Cx} {its its' : List Item} {s : Shared}

theorem S.tk (H : S C its s) {d : Drawn} {t : Nat} : S C its ⟨s.heap, s.gens, d, t, s.os⟩ := ⟨H.keep, H.own, H.new, H.nd, H.tbs, H.gens, H.os, H.big, H.n1⟩

theorem S.size_new (H : S C its s) : C.B.get? s.heap.objs.size = none := by
  cases q : C.B.get? s.heap.objs.size with
  | none => rfl
  | some o =>
    by_cases h : s.heap.objs.size ∈ C.tb
    · obtain ⟨o', e⟩ := H.tbs _ h
      exact absurd (Heap.lt_size e) (Nat.lt_irrefl _)
    · exact absurd (Heap.lt_size (H.keep _ _ q h)) (Nat.lt_irrefl _)
theorem S.lt (H : S C its s) {p : Item} (hp : p ∈ its) : p.1 < s.heap.objs.size := by
  obtain ⟨o, e, _⟩ := H.own p hp
  exact Heap.lt_size e

theorem S.one (H : S C its s) : 1 < s.heap.objs.size := by
  obtain ⟨b, o, h1, h2, h3⟩ := H.big
  exact Nat.lt_trans h1 (Heap.lt_size (H.keep b o h2 h3))
theorem S.push (H : S C its s) {o : Obj} {P : Obj → Prop} (hP : P o) (hf : o.isFreed = false) {d : Drawn} {t : Nat} :
    S C ((s.heap.objs.size, P) :: its) ⟨s.heap.push o, s.gens, d, t, s.os⟩ := by
  refine ⟨fun b o' e h => Heap.get?_push_of_some _ (H.keep b o' e h), fun p hp => ?_, fun p hp => ?_, ?_, fun a ha => ?_, H.gens, H.os, H.big, fun hm => ?_⟩
  · rcases List.mem_cons.mp hp with rfl | hp
    · exact ⟨o, Heap.get?_push_size _ hf, hP⟩
    · obtain ⟨o', e, h⟩ := H.own p hp
      exact ⟨o', Heap.get?_push_of_some _ e, h⟩
  · rcases List.mem_cons.mp hp with rfl | hp
    · exact .inl H.size_new
    · exact H.new p hp
  · rw [List.map_cons]
    refine List.nodup_cons.mpr ⟨fun hm => ?_, H.nd⟩
    obtain ⟨p, hp, e⟩ := List.mem_map.mp hm
    exact absurd (H.lt hp) (by rw [e]; exact Nat.lt_irrefl _)
  · obtain ⟨o', e⟩ := H.tbs a ha
    exact ⟨o', Heap.get?_push_of_some _ e⟩
  · rcases List.mem_cons.mp hm with e | hm
    · exact absurd e (Nat.ne_of_lt H.one)
    · exact H.n1 hm

/-- one item of the ledger is another -/
inductive Up (a : Addr) (P P' : Obj → Prop) : List Item → List Item → Prop
  | head {r} : Up a P P' ((a, P) :: r) ((a, P') :: r)
  | tail {p r r'} : Up a P P' r r' → Up a P P' (p :: r) (p :: r')
theorem Up.mem {a : Addr} {P P' : Obj → Prop} {l l' : List Item} (h : Up a P P' l l') : (a, P) ∈ l := by
  induction h with
  | head => exact .head _
  | tail _ ih => exact .tail _ ih
theorem Up.keys {a : Addr} {P P' : Obj → Prop} {l l' : List Item} (h : Up a P P' l l') : l'.map (·.1) = l.map (·.1) := by
  induction h with
  | head => rfl
  | tail _ ih => rw [List.map_cons, List.map_cons, ih]
theorem Up.other {a : Addr} {P P' : Obj → Prop} {l l' : List Item} (h : Up a P P' l l') : (l.map (·.1)).Nodup → ∀ p ∈ l', p = (a, P') ∨ (p ∈ l ∧ p.1 ≠ a) := by
  induction h with
  | head =>
    intro nd p hp
    refine (List.mem_cons.mp hp).imp id fun hp => ⟨.tail _ hp, fun e => ?_⟩
    exact (List.nodup_cons.mp nd).1 (e ▸ List.mem_map_of_mem (f := (·.1)) hp)
  | tail h ih =>
    intro nd p hp
    have nd := List.nodup_cons.mp nd
    refine (List.mem_cons.mp hp).elim (fun e => .inr ⟨e ▸ .head _, fun e2 => nd.1 ?_⟩) fun hp => (ih nd.2 p hp).imp id fun z => ⟨.tail _ z.1, z.2⟩
    subst e; show p.1 ∈ _; rw [e2]; exact List.mem_map_of_mem (f := (·.1)) h.mem

/-- an item of the ledger is changed in place -/
theorem S.up (H : S C its s) {a : Addr} {P P' : Obj → Prop} (U : Up a P P' its its') {h' : Heap} {o : Obj} (hs : Heap.SameBut a s.heap h') (ho : h'.get? a = some o) (hP : P' o) {d : Drawn} {t : Nat} :
    S C its' ⟨h', s.gens, d, t, s.os⟩ := by
  have hn := H.new _ U.mem
  refine ⟨fun b o' e h => ?_, fun p hp => ?_, fun p hp => ?_, by rw [U.keys]; exact H.nd, fun b hb => ?_, H.gens, H.os, H.big, by rw [U.keys]; exact H.n1⟩
  · refine (hs.2 b fun z => ?_).trans (H.keep b o' e h)
    subst z
    rcases hn with hn | hn
    · rw [hn] at e; cases e
    · exact h hn
  · rcases U.other H.nd p hp with rfl | ⟨hm, hne⟩
    · exact ⟨o, ho, hP⟩
    · obtain ⟨o', e, q⟩ := H.own p hm
      exact ⟨o', (hs.2 _ hne).trans e, q⟩
  · rcases U.other H.nd p hp with rfl | ⟨hm, _⟩
    · exact hn
    · exact H.new p hm
  · by_cases z : b = a
    · exact ⟨o, z ▸ ho⟩
    · obtain ⟨o', e⟩ := H.tbs b hb
      exact ⟨o', (hs.2 _ z).trans e⟩

theorem S.mono (H : S C its s) (hs : its'.Sublist its) : S C its' s :=
  ⟨H.keep, fun p hp => H.own p (hs.subset hp), fun p hp => H.new p (hs.subset hp), H.nd.sublist (hs.map _), H.tbs, H.gens, H.os, H.big, fun h => H.n1 ((hs.map _).subset h)⟩
theorem S.perm (H : S C its s) (hp : its.Perm its') : S C its' s :=
  ⟨H.keep, fun p h => H.own p (hp.mem_iff.mpr h), fun p h => H.new p (hp.mem_iff.mpr h), (hp.map _).nodup_iff.mp H.nd, H.tbs, H.gens, H.os, H.big, fun h => H.n1 ((hp.map _).mem_iff.mpr h)⟩
theorem S.tail {p : Item} (H : S C (p :: its) s) : S C its s := H.mono (List.sublist_cons_self _ _)

/-- the ledger less an item whose object may be anything now -/
theorem S.extBut (H : S C ((a, P) :: its) s) {h' : Heap} (hx : Heap.ExtBut a s.heap h') (ht : a ∉ C.tb) {d : Drawn} {t : Nat} : S C its ⟨h', s.gens, d, t, s.os⟩ := by
  have hn := (H.new _ (.head _)).resolve_right ht
  have nd := H.nd
  rw [List.map_cons, List.nodup_cons] at nd
  refine ⟨fun b o' e h => hx b o' (fun z => ?_) (H.keep b o' e h), fun p hp => ?_, fun p hp => H.new p (.tail _ hp), nd.2, fun b hb => ?_, H.gens, H.os, H.big, fun h => H.n1 (.tail _ h)⟩
  · subst z; rw [hn] at e; cases e
  · obtain ⟨o, e, q⟩ := H.own p (.tail _ hp)
    exact ⟨o, hx _ _ (fun z => nd.1 (by rw [← z]; exact List.mem_map_of_mem (f := (·.1)) hp)) e, q⟩
  · obtain ⟨o, e⟩ := H.tbs b hb
    exact ⟨o, hx _ _ (fun z => ht (z ▸ hb)) e⟩

/-- what a ledger says of one address -/
theorem S.get (H : S C its s) {a : Addr} {P : Obj → Prop} (hm : (a, P) ∈ its) : ∃ o, s.heap.get? a = some o ∧ P o := H.own _ hm
theorem S.sysm (H : S C its s) {a : Addr} {P : Obj → Prop} (hm : (a, P) ∈ its) : (a == sysModules) = false := by
  rw [beq_eq_false_iff_ne]
  intro e
  exact H.n1 (by rw [show (1 : Addr) = a from e.symm]; exact List.mem_map_of_mem (f := (·.1)) hm)
theorem S.ne (H : S C its s) {p q : Item} (hp : p ∈ its) (hq : q ∈ its) (hpq : p.1 = q.1) : p = q := by
  have nd := H.nd
  clear H
  induction its with
  | nil => cases hp
  | cons x l ih =>
    rw [List.map_cons, List.nodup_cons] at nd
    rcases List.mem_cons.mp hp with e1 | hp <;> rcases List.mem_cons.mp hq with e2 | hq
    · rw [e1, e2]
    · exact absurd (by rw [← e1, hpq]; exact List.mem_map_of_mem (f := (·.1)) hq) nd.1
    · exact absurd (by rw [← e2, ← hpq]; exact List.mem_map_of_mem (f := (·.1)) hp) nd.1
    · exact ih hp hq nd.2
end

/-- the text's ground: what stands behind its top; gl: what the global names and the built-in names are -/
structure Bs (prog : Program) (w : World) (K : Frag) (gl : List (Str × Value)) (C : Cx) : Prop where
  X : K.In C.B
  tk : ∀ a ∈ C.tb, K.lookup a = none
  names : ∃ mg mb, C.B.Ns mainGlobals mg ∧ C.B.Ns builtinsNs mb ∧ ∀ p ∈ gl, mg p.1 = some p.2 ∨ (mg p.1 = none ∧ mb p.1 = some p.2)
  lim : C.B.NoLimit
  dig : ∃ mc, C.B.Ns cStatics mc ∧ mc "sys.int_max_str_digits" = none
  lo : ∀ a ∈ C.tb, a ≠ mainGlobals ∧ a ≠ builtinsNs ∧ a ≠ cStatics

section
variable {prog : Program} {w : World} {K : Frag} {gl : List (Str × Value)} {C : Cx} {its : List Item} {s : Shared}
theorem Bs.k (hB : Bs prog w K gl C) (H : S C its s) : K.In s.heap := fun a o e => H.keep a o (hB.X a o e) fun h => by rw [hB.tk a h] at e; cases e
theorem Bs.ns {a : Addr} {m : Str → Option Value} (H : S C its s) (h : C.B.Ns a m) (ha : a ∉ C.tb) : s.heap.Ns a m := by
  obtain ⟨o, es, ep, e, r⟩ := h
  exact ⟨o, es, ep, H.keep _ _ e ha, r⟩
theorem Bs.L (hB : Bs prog w K gl C) (H : S C its s) : s.heap.NoLimit := by
  obtain ⟨mc, h, e⟩ := hB.lim
  exact ⟨mc, Bs.ns H h fun h => (hB.lo _ h).2.2 rfl, e⟩
end

noncomputable def nodupB : List Str → Bool
  | [] => true
  | x :: r => !r.contains x && nodupB r
theorem nodupB_iff : ∀ {l : List Str}, nodupB l = true → l.Nodup
  | [], _ => List.nodup_nil
  | x :: r, h => by
    unfold nodupB at h
    obtain ⟨h1, h2⟩ := Bool.and_eq_true_iff.mp h
    refine List.nodup_cons.mpr ⟨fun hm => ?_, nodupB_iff h2⟩
    rw [List.contains_iff_mem.mpr hm] at h1
    cases h1
theorem noCell {l : List (Str × NameKind)} (h : (l.all fun y => y.2 != .cell) = true) : ∀ y ∈ l, y.2 ≠ .cell := fun y hy e => by
  have := List.all_eq_true.mp h y hy
  rw [e] at this
  cases this

/-- a frame's names (none: not bound yet), tokens erased -/
noncomputable def NsI (loc : List (Str × Option Value)) (o : Obj) : Prop := ∃ es ep, o.data = .dict es ep ∧ StrKeys es ∧ (loc.map (·.1)).Nodup ∧ ∀ p ∈ loc, (nsFind es p.1).map er = p.2
/-- a cell -/
noncomputable def CellI (v : Option Value) (o : Obj) : Prop := ∃ u : Option Value, o.data = .cell u ∧ u.map er = v
/-- a list -/
noncomputable def ListI (vs : List Value) (o : Obj) : Prop := ∃ us n, o = { cls := .type "list", data := .seq us n } ∧ us.toList.map er = vs
noncomputable def TupI (vs : List Value) (o : Obj) : Prop := ∃ us n, o = { cls := .type "tuple", data := .seq us n } ∧ us.toList.map er = vs

/-- one name's value is another -/
inductive Pu (x : Str) (v : Option Value) : List (Str × Option Value) → List (Str × Option Value) → Prop
  | head {u r} : Pu x v ((x, u) :: r) ((x, v) :: r)
  | tail {p r r'} : Pu x v r r' → Pu x v (p :: r) (p :: r')
theorem Pu.keys {x : Str} {v : Option Value} {l l' : List (Str × Option Value)} (h : Pu x v l l') : l'.map (·.1) = l.map (·.1) := by
  induction h with
  | head => rfl
  | tail _ ih => rw [List.map_cons, List.map_cons, ih]
theorem Pu.mem {x : Str} {v : Option Value} {l l' : List (Str × Option Value)} (h : Pu x v l l') : x ∈ l.map (·.1) := by
  induction h with
  | head => exact .head _
  | tail _ ih => exact .tail _ ih
theorem Pu.other {x : Str} {v : Option Value} {l l' : List (Str × Option Value)} (h : Pu x v l l') : (l.map (·.1)).Nodup → ∀ p ∈ l', p = (x, v) ∨ (p ∈ l ∧ p.1 ≠ x) := by
  induction h with
  | head =>
    intro nd p hp
    refine (List.mem_cons.mp hp).imp id fun hp => ⟨.tail _ hp, fun e => ?_⟩
    exact (List.nodup_cons.mp nd).1 (e ▸ List.mem_map_of_mem (f := (·.1)) hp)
  | tail h ih =>
    intro nd p hp
    have nd := List.nodup_cons.mp nd
    refine (List.mem_cons.mp hp).elim (fun e => .inr ⟨e ▸ .head _, fun e2 => nd.1 ?_⟩) fun hp => (ih nd.2 p hp).imp id fun z => ⟨.tail _ z.1, z.2⟩
    subst e; show p.1 ∈ _; rw [e2]; exact h.mem

section
variable {M : Model} {A : Around} {E : Value → Shared → Prop} {C : Cx} {its its' : List Item} {s : Shared} {env : Env} {L : Addr} {loc loc' : List (Str × Option Value)} {x : Str} {pos : Pos}

theorem NsI.ns {o : Obj} {h : Heap} (hN : NsI loc o) (ho : h.get? L = some o) : ∃ m, h.Ns L m ∧ ∀ p ∈ loc, (m p.1).map er = p.2 := by
  obtain ⟨es, ep, hd, hk, _, hp⟩ := hN
  exact ⟨fun x => nsFind es x, ⟨o, es, ep, ho, hd, hk, fun _ => rfl⟩, hp⟩
theorem map_er {u : Option Value} {X : Value} (h : u.map er = some X) : ∃ v, u = some v ∧ er v = X := by
  cases u with
  | none => cases h
  | some v => exact ⟨v, rfl, Option.some.inj h⟩

theorem callEnv_locals {fd : FuncData} {L a : Addr} : (callEnv fd L a).locals = L := rfl
theorem rd_local {X : Value} {Q : Value → Shared → Prop} (H : S C its s) (hL : env.locals = L) (hm : (L, NsI loc) ∈ its) (hx : (x, some X) ∈ loc) (hk : env.scope.kind = .function) (hl : env.kindOf x = some .local)
    (hd : (x == ("__debug__" : Str)) = false) (h : Ret X Q s) : wpAny M A (eval (.Name x pos) env) Q E s := by
  obtain ⟨o, ho, hN⟩ := H.get hm
  obtain ⟨m, hns, hp⟩ := hN.ns ho
  obtain ⟨v, hv, e⟩ := map_er (hp _ hx)
  exact wpAny_Name (wpAny_loadName_local hk hl (hL ▸ hns) hv (h.use e)) hd

theorem st_local {v X : Value} {Q : Unit → Shared → Prop} (H : S C its s) (hL : env.locals = L) (hl : env.kindOf x = some .local) (hk : env.scope.kind = .function) (hv : er v = X) (hm : (L, NsI loc) ∈ its) (hP : Pu x (some X) loc loc') (hU : Up L (NsI loc) (NsI loc') its its')
    (h : ∀ s', S C its' s' → Q () s') : wpAny M A (storeName env x v) Q E s := by
  subst hL hv
  obtain ⟨o, ho, hN⟩ := H.get hU.mem
  obtain ⟨es, ep, hd, hsk, hnd, hp⟩ := id hN
  refine wpAny_storeName_local (m := fun x => nsFind es x) hl ⟨o, es, ep, ho, hd, hsk, fun _ => rfl⟩ (fun h' hn hs => h _ ?_) (by rw [hk]; rfl)
  obtain ⟨o', es', ep', ho', hd', hk', hf'⟩ := hn
  refine H.up hU hs ho' ⟨es', ep', hd', hk', by rw [hP.keys]; exact hnd, fun p hpm => ?_⟩
  rw [hf']
  rcases hP.other hnd p hpm with rfl | ⟨hm, hne⟩
  · dsimp only; rw [if_pos rfl]; rfl
  · dsimp only; rw [if_neg hne]; exact hp p hm

theorem rd_cell {X : Value} {c : Addr} {Q : Value → Shared → Prop} (H : S C its s) (hk : env.scope.kind = .function) (hl : env.kindOf x = some .cell) (hc : env.cells.lookup x = some c) (hm : (c, CellI (some X)) ∈ its) 
    (hd : (x == ("__debug__" : Str)) = false) (h : Ret X Q s) : wpAny M A (eval (.Name x pos) env) Q E s := by
  obtain ⟨o, ho, u, hu, e⟩ := H.get hm
  obtain ⟨v, rfl, e'⟩ := map_er e
  exact wpAny_Name (wpAny_loadName_cell hk hl hc ⟨o, ho, hu⟩ (h.use e')) hd
theorem rd_free {X : Value} {c : Addr} {Q : Value → Shared → Prop} (H : S C its s) (hk : env.scope.kind = .function) (hl : env.kindOf x = some .free) (hc : env.cells.lookup x = some c) (hm : (c, CellI (some X)) ∈ its) 
    (hd : (x == ("__debug__" : Str)) = false) (hcd : (x == ("__classdict__" : Str)) = false) (h : Ret X Q s) : wpAny M A (eval (.Name x pos) env) Q E s := by
  obtain ⟨o, ho, u, hu, e⟩ := H.get hm
  obtain ⟨v, rfl, e'⟩ := map_er e
  exact wpAny_Name (wpAny_loadName_free hk hl hc ⟨o, ho, hu⟩ (h.use e') hcd) hd
theorem st_cell {v X : Value} {c : Addr} {u : Option Value} {Q : Unit → Shared → Prop} (H : S C its s) (hk : env.scope.kind = .function) (hl : env.kindOf x = some .cell) (hc : env.cells.lookup x = some c) (hv : er v = X)
    (hU : Up c (CellI u) (CellI (some X)) its its') (h : ∀ s', S C its' s' → Q () s') : wpAny M A (storeName env x v) Q E s := by
  subst hv
  obtain ⟨o, ho, u', hu, e⟩ := H.get hU.mem
  refine wpAny_storeName_cell hk hl hc ⟨o, ho, hu⟩ fun h' ⟨o', ho', hd'⟩ hs => h _ (H.up hU hs ho' ⟨_, hd', rfl⟩)
end

structure Rm (A : Around) (d u : Nat) : Prop where
  hd : A.handled = none
  dep : A.depth + d < recursionLimit
  un : A.units + u < cLine
theorem Rm.deeper {A : Around} {d u : Nat} (h : Rm A (d + 1) (u + 3)) (env : Env) : Rm (A.deeper env) d u := ⟨h.hd, by have := h.dep; show A.depth + 1 + d < _; omega, by have := h.un; show A.units + 3 + u < _; omega⟩
theorem Rm.in1 {A : Around} {d u : Nat} (h : Rm A d (u + 1)) : Rm A.in1 d u := ⟨h.hd, h.dep, by have := h.un; show A.units + 1 + u < _; omega⟩
theorem Rm.le {A : Around} {d u d' u' : Nat} (h : Rm A d u) (h1 : d' ≤ d) (h2 : u' ≤ u) : Rm A d' u' := ⟨h.hd, by have := h.dep; omega, by have := h.un; omega⟩
theorem Rm.room {A : Around} {d u : Nat} (h : Rm A d u) : A.depth < recursionLimit := by have := h.dep; omega
theorem Rm.units {A : Around} {d u : Nat} (h : Rm A d u) : A.units < cLine := by have := h.un; omega

section
variable {prog : Program} {w : World} {A : Around} {E : Value → Shared → Prop} {K : Frag} {gl : List (Str × Value)} {C : Cx} {its its' : List Item} {s : Shared} {env : Env} {x : Str} {pos : Pos}
theorem rd_global {v : Value} {Q : Value → Shared → Prop} (H : S C its s) (hB : Bs prog w K gl C) (e : (x, v) ∈ gl) (hg : env.globals = mainGlobals) (hb : env.builtins = builtinsNs) (hk : env.scope.kind = .function) (hl : env.kindOf x = some .globalImplicit)
    (hd : (x == ("__debug__" : Str)) = false) (h : Q v s) : wpAny (model prog w) A (eval (.Name x pos) env) Q E s := by
  obtain ⟨mg, mb, hG, hM, hn⟩ := hB.names
  have g1 := Bs.ns H hG fun h => (hB.lo _ h).1 rfl
  have g2 := Bs.ns H hM fun h => (hB.lo _ h).2.1 rfl
  rcases hn _ e with h1 | ⟨h1, h2⟩
  · exact Calls.Name_function_global hk hl (Calls.loadGlobal_global (hg ▸ g1) h1 h) hd
  · exact Calls.Name_function_global hk hl (Calls.loadGlobal_builtin (hg ▸ g1) h1 (hb ▸ g2) h2 h) hd

theorem call_fn {fd : FuncData} {o : Obj} {body : List Stmt} {args : Args} {binds : List (Str × Value)} {loc : List (Str × Option Value)} {R : Result → Shared → Prop} {f : Addr}
    (H : S C its s) (hB : Bs prog w K gl C) (ho : s.heap.get? f = some o) (hd : o.data = .func fd) (hcd : s.heap.CodeRec fd.code fd.qualname) (hbody : fd.body = .stmts body) {dd uu : Nat} (hA : Rm A (dd + 1) (uu + 3))
    (hbind : BindsTo s fd args binds) (hcell : (fd.scope.names.all fun y => y.2 != .cell) = true) (hloc : (binds.all fun y => decide (fd.scope.names.lookup y.1 = some .local)) = true)
    (hnd : nodupB (loc.map (·.1)) = true) (hl : loc = loc.map fun p => (p.1, (binds.reverse.lookup p.1).map er))
    (h : ∀ L s', Rm (A.deeper (callEnv fd L f)) dd uu → S C ((L, NsI loc) :: its) s' → wpAny (model prog w) (A.deeper (callEnv fd L f)) (execs body (callEnv fd L f)) (fun fl s'' => R (.ok (.ret (match fl with | .ret v => v | _ => .none))) s'')
      (fun e s'' => wpAny (model prog w) (A.deeper (callEnv fd L f)) (leaving (callEnv fd L f) e) (fun _ s₃ => R (.error e) s₃) (fun e' s₃ => R (.error e') s₃) s'') s')
    (hco : fd.scope.isCoroutine = false := by rfl) (hgen : fd.scope.isGenerator = false := by rfl) (hk : fd.scope.kind = .function := by rfl) :
    codeAny (model prog w) A (.call (.ref f) args) R s := by
  refine codeAny_call_function hA.room ho hd hco hgen hbody hcd (hbind _ _ _ _ (wpAny_newFunctionEnv (noCell hcell) (locs hloc) (fun h₁ hns hsb => ⟨?_, codeAny_func (h s.heap.objs.size _ (hA.deeper _) ?_)⟩) hk))
  · obtain ⟨mc, hm, e⟩ := hB.L H
    have : s.heap.NoLimit := ⟨mc, hm, e⟩
    exact this.fresh _ hsb
  · obtain ⟨oL, es, ep, hoL, hdL, hsk, hf⟩ := id hns
    have H1 : S C ((s.heap.objs.size, fun _ => True) :: its) ⟨s.heap.push { cls := Value.type "frame", data := Data.dict #[] }, s.gens, s.drawn, s.toks, s.os⟩ := H.push (P := fun _ => True) trivial rfl
    refine S.up (d := s.drawn) (t := s.toks + binds.length) H1 (P := fun _ => True) (P' := NsI loc) .head hsb hoL ⟨es, ep, hdL, hsk, nodupB_iff hnd, fun p hp => ?_⟩
    rw [hf]
    rw [hl] at hp
    obtain ⟨q, _, rfl⟩ := List.mem_map.mp hp
    rfl
end
end Mc
namespace Mc
/-- a contract: what the tree asks of the ledger, what it gives, whatever else stands there -/
noncomputable def T3 (prog : Program) (w : World) (C : Cx) (d u : Nat) (P : List Item) (t : Sem Value) (R : Value → List Item → Prop) : Prop :=
  ∀ A rest s (Q E : Value → Shared → Prop), Rm A d u → S C (P ++ rest) s → (∀ v P' s', R v P' → S C (P' ++ rest) s' → Q v s') → wpAny (model prog w) A t Q E s

section
variable {prog : Program} {w : World} {A : Around} {E : Value → Shared → Prop} {C : Cx} {its its' : List Item} {s : Shared} {pos : Pos} {a : Addr} {vs : List Value}
theorem ListI.at {h : Heap} {o : Obj} (hL : ListI vs o) (ho : h.get? a = some o) : ∃ us n, IsL h a us n ∧ us.toList.map er = vs := by
  obtain ⟨us, n, rfl, e⟩ := hL
  exact ⟨us, n, ho, e⟩
theorem IsL.list {h : Heap} {us : Array Value} {n : Nat} (x : IsL h a us n) : h.IsList a us := ⟨_, x, rfl, n, rfl⟩
theorem len_er {us : Array Value} (e : us.toList.map er = vs) : us.size = vs.length := by rw [← e]; simp
theorem r_len_list {Q : Value → Shared → Prop} (H : S C its s) (hm : (a, ListI vs) ∈ its) (hz : vs.length ≤ 1048576) (h : ∀ t s', S C its s' → Q (.int (vs.length : Int) t) s') :
    wpAny (model prog w) A (call (.builtin "len") [.ref a]) Q E s := by
  obtain ⟨o, ho, hL⟩ := H.get hm
  obtain ⟨us, n, hi, e⟩ := hL.at ho
  have e' := len_er e
  refine Calls.call_len_list (IsL.list hi) (by rw [e']; omega) ?_
  rw [e']
  exact h _ _ H.tk
theorem m_list {name : Str} {id : String} {pl : Sem Bool} {Q : Value × List Value → Shared → Prop} (H : S C its s) (hm : (a, ListI vs) ∈ its) (hs : Slot "list" name id) (ht : typeOf (.builtin id) = pure (.type "method_descriptor"))
    (h : Q (.builtin id, [.ref a]) s) : wpAny (model prog w) A (getMethod (.ref a) name pl) Q E s := by
  obtain ⟨o, ho, us, n, rfl, _⟩ := H.get hm
  exact getMethod_builtin ⟨_, ho, rfl⟩ PySem.F.plainAttrs_list hs ht (fun b e => by cases e; exact ⟨_, ho, rfl⟩) h
end
end Mc

namespace Mc
section
variable {prog : Program} {w : World} {α : Type} [DecidableEq α] {knd : PySem.KeyKind prog w α} {kvs kvs' us : List (α × Value)} {k : α} {v X : Value}

noncomputable def ek (p : α × Value) : α × Value := (p.1, er p.2)
/-- a dict of the kind, its pairs in order, tokens of the values erased -/
noncomputable def DictI (knd : PySem.KeyKind prog w α) (kvs : List (α × Value)) (ep : Option Nat) (o : Obj) : Prop := ∃ us, Obj.IsDictOf knd o us ∧ us.map ek = kvs ∧ ∀ n, ep = some n → ∃ es, o.data = .dict es n

theorem valueAt_mem {us : List (α × Value)} (nd : (us.map (·.1)).Nodup) (h : (k, v) ∈ us) : valueAt us k = some v := by
  induction us with
  | nil => exact nomatch h
  | cons p r ih =>
    have nd := List.nodup_cons.mp nd
    unfold valueAt
    rw [List.find?_cons]
    refine (List.mem_cons.mp h).elim (fun e => ?_) fun h => ?_
    · rw [← e, decide_eq_true rfl]; rfl
    · have : p.1 ≠ k := fun e => nd.1 (by show p.1 ∈ _; rw [e]; exact List.mem_map_of_mem (f := (·.1)) h)
      rw [decide_eq_false this]
      exact ih nd.2 h
theorem mem_ek (h : (k, X) ∈ us.map ek) : ∃ v, (k, v) ∈ us ∧ er v = X := by
  obtain ⟨⟨k', v⟩, hm, e⟩ := List.mem_map.mp h
  cases e
  exact ⟨v, hm, rfl⟩
theorem ek_keys : (us.map ek).map (·.1) = us.map (·.1) := by rw [List.map_map]; rfl
theorem any_keys : us.any (fun kv => decide (kv.1 = k)) = (us.map (·.1)).contains k := by
  induction us with
  | nil => rfl
  | cons p r ih =>
    rw [List.any_cons, List.map_cons, List.contains_cons, ih]
    congr 1
    by_cases h : p.1 = k
    · subst h; simp
    · have : ¬ k = p.1 := fun e => h e.symm
      simp [h, this]
theorem stored_ek : (stored us k v).map ek = stored (us.map ek) k (er v) := by
  unfold stored
  rw [any_keys, any_keys, ek_keys]
  split
  · rw [List.map_map, List.map_map]
    refine List.map_congr_left fun p _ => ?_
    show ek (if p.1 = k then (p.1, v) else p) = if p.1 = k then (p.1, er v) else ek p
    split <;> rfl
  · rw [List.map_append]; rfl
theorem without_ek : (without us k).map ek = without (us.map ek) k := by
  unfold without
  rw [List.filter_map]
  rfl
theorem valueAt_ek : valueAt (us.map ek) k = (valueAt us k).map er := by
  unfold valueAt
  rw [List.find?_map]
  show Option.map (·.2) (Option.map ek (us.find? fun p => decide (p.1 = k))) = _
  cases us.find? fun p => decide (p.1 = k) <;> rfl

/-- one key's value is another -/
inductive Du (k : α) (v : Value) : List (α × Value) → List (α × Value) → Prop
  | head {u r} : Du k v ((k, u) :: r) ((k, v) :: r)
  | tail {p r r'} : Du k v r r' → Du k v (p :: r) (p :: r')
theorem Du.mem {l l' : List (α × Value)} (h : Du k v l l') : k ∈ l.map (·.1) := by
  induction h with
  | head => exact .head _
  | tail _ ih => exact .tail _ ih
theorem Du.stored_map {l l' : List (α × Value)} (h : Du k v l l') (nd : (l.map (·.1)).Nodup) : (l.map fun kv => if kv.1 = k then (kv.1, v) else kv) = l' := by
  induction h with
  | head =>
    rw [List.map_cons, if_pos rfl, map_store_of_not_mem _ k v (List.nodup_cons.mp nd).1]
  | tail h ih =>
    have nd := List.nodup_cons.mp nd
    rw [List.map_cons, if_neg (fun e => nd.1 (by show Prod.fst _ ∈ _; rw [e]; exact h.mem)), ih nd.2]
theorem Du.stored {l l' : List (α × Value)} (h : Du k v l l') (nd : (l.map (·.1)).Nodup) : PySem.stored l k v = l' := by
  unfold PySem.stored
  rw [any_keys, List.contains_iff_mem.mpr h.mem, if_pos rfl]
  exact h.stored_map nd
theorem stored_new (h : (kvs.map (·.1)).contains k = false) : PySem.stored kvs k v = kvs ++ [(k, v)] := by
  unfold PySem.stored
  rw [any_keys, h]; rfl

theorem stored_keys : (PySem.stored us k v).map (·.1) = if (us.map (·.1)).contains k then us.map (·.1) else us.map (·.1) ++ [k] := by
  unfold PySem.stored
  rw [any_keys]
  split
  · rw [List.map_map]
    refine List.map_congr_left fun p _ => ?_
    show (if p.1 = k then (p.1, v) else p).1 = p.1
    split <;> rfl
  · rw [List.map_append]; rfl
theorem nodup_stored (nd : (us.map (·.1)).Nodup) : ((PySem.stored us k v).map (·.1)).Nodup := by
  rw [stored_keys]
  split
  · exact nd
  · rename_i h
    refine List.nodup_append.mpr ⟨nd, by simp, fun a ha b hb e => ?_⟩
    rw [List.mem_singleton] at hb
    subst hb e
    exact h (List.contains_iff_mem.mpr ha)
theorem DictI.nodup {o : Obj} {ep : Option Nat} (h : DictI knd kvs ep o) : (kvs.map (·.1)).Nodup := by
  obtain ⟨us, ⟨_, _, _, _, _, _, nd⟩, rfl, _⟩ := h
  rw [ek_keys]; exact nd
theorem DictI.at {o : Obj} {ep : Option Nat} {h : Heap} {a : Addr} (hD : DictI knd kvs ep o) (ho : h.get? a = some o) : ∃ us, Heap.DictOf knd h a us ∧ us.map ek = kvs := by
  obtain ⟨us, h1, h2, _⟩ := hD
  exact ⟨us, Heap.dictOf_iff.mpr ⟨o, ho, h1⟩, h2⟩
theorem DictOf.mapOf {h : Heap} {a : Addr} (hD : Heap.DictOf knd h a us) : Heap.MapOf knd h a (valueAt us) := by
  obtain ⟨o, es, ep, ho, hx, hd, hk, hp, hn⟩ := hD
  refine ⟨o, es, ep, ho, hx, hd, hk, fun k => ?_⟩
  rw [← hp.find k]
  unfold findBy
  rw [← Array.find?_toList]
end
section
variable {prog : Program} {w : World} {A : Around} {E : Value → Shared → Prop} {α : Type} [DecidableEq α] {knd : PySem.KeyKind prog w α} {C : Cx} {its its' : List Item} {s : Shared} {a : Addr} {kvs kvs' : List (α × Value)} {ep : Option Nat} {k : α} {key v X : Value}
theorem S.upD {Q : Unit → Shared → Prop} {kvs₂ : List (α × Value)} (H : S C its s) (hU : Up a (DictI knd kvs ep) (DictI knd kvs₂ none) its its') {us : List (α × Value)} {h' : Heap} (hD : Heap.DictOf knd h' a us) (hs : Heap.SameBut a s.heap h') (e : us.map ek = kvs₂)
    {d : Drawn} {t : Nat} : S C its' ⟨h', s.gens, d, t, s.os⟩ := by
  obtain ⟨o, ho, hi⟩ := Heap.dictOf_iff.mp hD
  exact H.up hU hs ho ⟨us, hi, e, nofun⟩
/-- d[key] -/
theorem r_getItem {Q : Value → Shared → Prop} (H : S C its s) (hm : (a, DictI knd kvs ep) ∈ its) (hk : knd.is k key = true) (hv : valueAt kvs k = some X) (h : ∀ s', S C its s' → Ret X Q s') :
    wpAny (model prog w) A (getItem (.ref a) key) Q E s := by
  obtain ⟨o, ho, hD⟩ := H.get hm
  obtain ⟨us, h1, h2⟩ := hD.at ho
  subst h2
  rw [valueAt_ek] at hv
  obtain ⟨u, hu, e⟩ := map_er hv
  exact wpAny_getItem_of hk (DictOf.mapOf h1) hu ((h _ H.tk).use e)
/-- d[key] = v -/
theorem r_setItem {Q : Unit → Shared → Prop} (H : S C its s) (hk : knd.is k key = true) (hv : er v = X) (hU : Up a (DictI knd kvs ep) (DictI knd (stored kvs k X) none) its its') (hz : kvs.length ≤ 100000) (h : ∀ s', S C its' s' → Q () s') :
    wpAny (model prog w) A (setItem (.ref a) key v) Q E s := by
  subst hv
  obtain ⟨o, ho, hD⟩ := H.get hU.mem
  obtain ⟨us, h1, h2⟩ := hD.at ho
  subst h2
  refine wpAny_setItem_pairs hk h1 (fun h' hd hs => h _ (S.upD (Q := Q) H hU hd hs stored_ek)) ?_
  rw [List.length_map] at hz
  rw [sizeLine_eq]; omega
/-- key in d -/
theorem r_in {Q : Value → Shared → Prop} (H : S C its s) (hm : (a, DictI knd kvs ep) ∈ its) (hk : knd.is k key = true) (ha : (a == sysModules) = false) (h : ∀ s', S C its s' → Q (.bool (valueAt kvs k).isSome) s') :
    wpAny (model prog w) A (compareOp .In key (.ref a)) Q E s := by
  obtain ⟨o, ho, hD⟩ := H.get hm
  obtain ⟨us, h1, h2⟩ := hD.at ho
  subst h2
  refine wpAny_in_of hk ha (DictOf.mapOf h1) ?_
  have := h _ (H.tk (d := s.drawn) (t := s.toks + 1))
  rw [valueAt_ek, Option.isSome_map] at this
  exact this
theorem r_notIn {Q : Value → Shared → Prop} (H : S C its s) (hm : (a, DictI knd kvs ep) ∈ its) (hk : knd.is k key = true) (ha : (a == sysModules) = false) (h : ∀ s', S C its s' → Q (.bool (!(valueAt kvs k).isSome)) s') :
    wpAny (model prog w) A (compareOp .NotIn key (.ref a)) Q E s := by
  obtain ⟨o, ho, hD⟩ := H.get hm
  obtain ⟨us, h1, h2⟩ := hD.at ho
  subst h2
  refine wpAny_notIn_of hk ha (DictOf.mapOf h1) ?_
  have := h _ (H.tk (d := s.drawn) (t := s.toks + 1))
  rw [valueAt_ek, Option.isSome_map] at this
  exact this
theorem m_dict {name : Str} {id : String} {pl : Sem Bool} {Q : Value × List Value → Shared → Prop} (H : S C its s) (hm : (a, DictI knd kvs ep) ∈ its) (hs : Slot "dict" name id) (ht : typeOf (.builtin id) = pure (.type "method_descriptor"))
    (h : Q (.builtin id, [.ref a]) s) : wpAny (model prog w) A (getMethod (.ref a) name pl) Q E s := by
  obtain ⟨o, ho, us, ⟨es, ep', ⟨h1, h2, h3⟩, _⟩, _⟩ := H.get hm
  exact getMethod_builtin ⟨o, ho, h1⟩ PySem.F.plainAttrs_dict hs ht (fun b e => by cases e; exact ⟨_, ho, h2⟩) h
end
end Mc

namespace Mc
section
variable {prog : Program} {w : World} {A : Around} {E : Value → Shared → Prop} {C : Cx} {its its' : List Item} {s : Shared} {it : Addr}
theorem S.fresh_tb (H : S C its s) : s.heap.objs.size ∉ C.tb := fun h => by
  obtain ⟨o, e⟩ := H.tbs _ h
  exact absurd (Heap.lt_size e) (Nat.lt_irrefl _)

/-- an iterator: n turns, what it gives at each, what its object is -/
structure Nx (prog : Program) (w : World) (C : Cx) (it : Addr) (n : Nat) (elt : Nat → Value → Prop) (P : Nat → Obj → Prop) (need : List Item → Prop) : Prop where
  next : ∀ (A : Around) its s (Q : Option Value → Shared → Prop) (E : Value → Shared → Prop) i, A.handled = none → S C ((it, P i) :: its) s → need its → i < n →
    (∀ v s', elt i v → S C ((it, P (i + 1)) :: its) s' → Q (some v) s') → wpAny (model prog w) A (pyNext (.ref it)) Q E s
  stop : ∀ (A : Around) its s (Q : Option Value → Shared → Prop) (E : Value → Shared → Prop), A.handled = none → S C ((it, P n) :: its) s → need its →
    (∀ s', S C its s' → Q none s') → wpAny (model prog w) A (pyNext (.ref it)) Q E s

noncomputable def TurnEnd (C : Cx) (it : Addr) (P : Obj → Prop) (Inv : List Item → Prop) (R : Result → Shared → Prop) (f : Flow) (s : Shared) : Prop := match f with
  | .next => ∃ l, Inv l ∧ S C ((it, P) :: l) s
  | .cont => ∃ l, Inv l ∧ S C ((it, P) :: l) s
  | .brk => R (.ok .next) s
  | .ret v => R (.ok (.ret v)) s
theorem TurnEnd.next {P : Obj → Prop} {Inv : List Item → Prop} {R : Result → Shared → Prop} {l : List Item} (h : Inv l) (H : S C ((it, P) :: l) s) : TurnEnd C it P Inv R .next s := ⟨l, h, H⟩
theorem for_nx {env : Env} {n : Nat} {elt : Nat → Value → Prop} {P : Nat → Obj → Prop} {need : List Item → Prop} {R : Result → Shared → Prop} {x : Str} {p : Pos} {body orelse : List Stmt}
    (N : Nx prog w C it n elt P need) (hA : A.handled = none) (Inv : Nat → List Item → Prop) (hneed : ∀ i l, Inv i l → need l) (h0 : Inv 0 its) (H : S C ((it, P 0) :: its) s)
    (turn : ∀ i v l s₁ (E' : Value → Shared → Prop), i < n → elt i v → Inv i l → S C ((it, P (i + 1)) :: l) s₁ →
      wpAny (model prog w) A (storeName env x v) (fun _ s₂ => wpAny (model prog w) A (execs body env) (TurnEnd C it (P (i + 1)) (Inv (i + 1)) R) E' s₂) E' s₁)
    (done : ∀ l s₁ (E' : Value → Shared → Prop), Inv n l → S C l s₁ → wpAny (model prog w) A (execs orelse env) (fun f s₃ => R (.ok f) s₃) E' s₁) :
    codeAny (model prog w) A (.forLoop (.Name x p) (.ref it) body orelse env) R s := by
  refine codeAny_forLoop (fun m s => ∃ i l, m = n - i ∧ i ≤ n ∧ Inv i l ∧ S C ((it, P i) :: l) s) (fun m s₀ ⟨i, l, hm, hi, hI, Hs⟩ => ?_) n ⟨0, its, rfl, Nat.zero_le _, h0, H⟩
  by_cases hlt : i < n
  · refine N.next A l s₀ _ _ i hA Hs (hneed i l hI) hlt fun v s' he H' => ?_
    refine wpAny_assign_Name (wpAny_mono (turn i v l s' _ hlt he hI H') (fun _ s₂ h₂ => wpAny_mono h₂ (fun f s₃ h₃ => ?_) fun _ _ e => e) fun _ _ e => e)
    cases f with
    | next => obtain ⟨l', a, b⟩ := h₃; exact ⟨n - (i + 1), by omega, i + 1, l', rfl, hlt, a, b⟩
    | cont => obtain ⟨l', a, b⟩ := h₃; exact ⟨n - (i + 1), by omega, i + 1, l', rfl, hlt, a, b⟩
    | brk => exact h₃
    | ret v => exact h₃
  · have hin : i = n := by omega
    subst hin
    exact N.stop A l s₀ _ _ hA Hs (hneed i l hI) fun s' H' => done l s' _ hI H'

/-- the same where the turn's thing is a new tuple that is taken apart -/
structure NxT (prog : Program) (w : World) (C : Cx) (it : Addr) (n : Nat) (elt : Nat → List Value → Prop) (P : Nat → Obj → Prop) (need : List Item → Prop) : Prop where
  next : ∀ (A : Around) its s (Q E : Value → Shared → Prop) (Y : Shared → Prop) (elts : List PySem.Expr) (k : Nat) (pos : Pos) i, A.handled = none → S C ((it, P i) :: its) s → need its → i < n →
    (∀ v t us s', elt i us → v = .ref t → S C ((it, P (i + 1)) :: its) s' → s'.heap.IsTuple t us.toArray → Q v s') → 
    wpAny (model prog w) A (pyNext (.ref it)) (fun r s₁ => match r with | none => Y s₁ | some v => wpAny (model prog w) A (letOwnedTupleGo (.Tuple elts k pos) (.ref it) v) (fun _ s₂ => Q v s₂) E s₁) E s
  stop : ∀ (A : Around) its s (Q : Option Value → Shared → Prop) (E : Value → Shared → Prop), A.handled = none → S C ((it, P n) :: its) s → need its →
    (∀ s', S C its s' → Q none s') → wpAny (model prog w) A (pyNext (.ref it)) Q E s

theorem for_nxT {env : Env} {n : Nat} {elt : Nat → List Value → Prop} {P : Nat → Obj → Prop} {need : List Item → Prop} {R : Result → Shared → Prop} {elts : List PySem.Expr} {k : Nat} {p : Pos} {body orelse : List Stmt}
    (N : NxT prog w C it n elt P need) (hA : A.handled = none) (hlen : ∀ i us, elt i us → (assignEach elts env).length = us.length) (hst : List.findIdx? (fun x => x.1) (assignEach elts env) = none)
    (Inv : Nat → List Item → Prop) (hneed : ∀ i l, Inv i l → need l) (h0 : Inv 0 its) (H : S C ((it, P 0) :: its) s)
    (turn : ∀ i us l s₁ (E' : Value → Shared → Prop), i < n → elt i us → Inv i l → S C ((it, P (i + 1)) :: l) s₁ →
      wpAny (model prog w) A (assignInOrder (List.map (fun x => x.2) (assignEach elts env)) us) (fun _ s₂ => wpAny (model prog w) A (execs body env) (TurnEnd C it (P (i + 1)) (Inv (i + 1)) R) E' s₂) E' s₁)
    (done : ∀ l s₁ (E' : Value → Shared → Prop), Inv n l → S C l s₁ → wpAny (model prog w) A (execs orelse env) (fun f s₃ => R (.ok f) s₃) E' s₁) :
    codeAny (model prog w) A (.forLoop (.Tuple elts k p) (.ref it) body orelse env) R s := by
  refine codeAny_forLoop_any (fun m s => ∃ i l, m = n - i ∧ i ≤ n ∧ Inv i l ∧ S C ((it, P i) :: l) s) (fun m s₀ ⟨i, l, hm, hi, hI, Hs⟩ => ?_) n ⟨0, its, rfl, Nat.zero_le _, h0, H⟩
  by_cases hlt : i < n
  · refine N.next A l s₀ _ _ _ elts k p i hA Hs (hneed i l hI) hlt fun v t us s' he hv H' ht => ?_
    subst hv
    refine wpAny_assign_Tuple hA ht (by rw [hlen i us he]; simp) hst fun h' hx => ?_
    have hH : S C ((it, P (i + 1)) :: l) ⟨h', s'.gens, s'.drawn, s'.toks, s'.os⟩ := by
      have h1 := H'
      refine ⟨fun b o e q => hx b o (fun z => ?_) (h1.keep b o e q), fun q hq => ?_, h1.new, h1.nd, fun b hb => ?_, h1.gens, h1.os, h1.big, h1.n1⟩
      · subst z
        exact absurd (Heap.lt_size (h1.keep _ _ e q)) (Nat.lt_irrefl _)
      · obtain ⟨o, e, y⟩ := h1.own q hq
        exact ⟨o, hx _ _ (Nat.ne_of_lt (Heap.lt_size e)) e, y⟩
      · obtain ⟨o, e⟩ := h1.tbs b hb
        exact ⟨o, hx _ _ (Nat.ne_of_lt (Heap.lt_size e)) e⟩
    have q := turn i us l _ (notedBy (model prog w) A env fun e s' => R (.error e) s') hlt he hI hH
    rw [show us.toArray.toList = us from by simp]
    refine wpAny_mono q (fun _ s₂ h₂ => wpAny_mono h₂ (fun f s₃ h₃ => ?_) fun _ _ e => e) fun _ _ e => e
    cases f with
    | next => obtain ⟨l', a, b⟩ := h₃; exact ⟨n - (i + 1), by omega, i + 1, l', rfl, hlt, a, b⟩
    | cont => obtain ⟨l', a, b⟩ := h₃; exact ⟨n - (i + 1), by omega, i + 1, l', rfl, hlt, a, b⟩
    | brk => exact h₃
    | ret v => exact h₃
  · have hin : i = n := by omega
    subst hin
    exact N.stop A l s₀ _ _ hA Hs (hneed i l hI) fun s' H' => done l s' _ hI H'
end
end Mc
namespace Mc
section
variable {prog : Program} {w : World} {A : Around} {E : Value → Shared → Prop} {C : Cx} {its its' : List Item} {s : Shared} {it : Addr}
noncomputable def ListIt (l : Addr) (i : Nat) (o : Obj) : Prop := o.cls = .type "list_iterator" ∧ o.data = .fields #[.ref l, .int i 0]
theorem er_get {us : Array Value} {vs : List Value} (e : us.toList.map er = vs) (i : Nat) : vs[i]? = us[i]?.map er := by
  rw [← e, List.getElem?_map, Array.getElem?_toList]
theorem nx_list (l : Addr) (vs : List Value) (hit : it ∉ C.tb) : Nx prog w C it vs.length (fun i v => ∃ X, vs[i]? = some X ∧ er v = X) (ListIt l) (fun its => (l, ListI vs) ∈ its) := by
  refine ⟨fun A its s Q E i hA H hn hi h => ?_, fun A its s Q E hA H hn h => ?_⟩
  · obtain ⟨o, ho, hc, hd⟩ := H.get (.head _)
    obtain ⟨ol, hol, hL⟩ := H.get (.tail _ hn)
    obtain ⟨us, n, hi', e⟩ := hL.at hol
    have hx := er_get e i
    rw [List.getElem?_eq_getElem hi] at hx
    obtain ⟨v, hv, e2⟩ := map_er hx.symm
    refine wpAny_pyNext_list_item ⟨o, ho, hc, hd⟩ (IsL.list hi') hv fun h' ⟨o', ho', hc', hd'⟩ hs => ?_
    exact h v _ ⟨_, List.getElem?_eq_getElem hi, e2⟩ (H.up .head hs ho' ⟨hc', hd'⟩)
  · obtain ⟨o, ho, hc, hd⟩ := H.get (.head _)
    obtain ⟨ol, hol, hL⟩ := H.get (.tail _ hn)
    obtain ⟨us, n, hi', e⟩ := hL.at hol
    refine wpAny_pyNext_list_end hA ⟨o, ho, hc, hd⟩ (IsL.list hi') ?_ fun h' hx => h _ (H.extBut hx hit)
    have := len_er e
    rw [← this]; simp
theorem it_list {l : Addr} {vs : List Value} {Q : Value → Shared → Prop} (H : S C its s) (hm : (l, ListI vs) ∈ its) (h : ∀ it s', it ∉ C.tb → S C ((it, ListIt l 0) :: its) s' → Q (.ref it) s') : wpAny (model prog w) A (pyIter (.ref l)) Q E s := by
  obtain ⟨ol, hol, hL⟩ := H.get hm
  obtain ⟨us, n, hi', e⟩ := hL.at hol
  exact wpAny_pyIter_list (IsL.list hi') (h _ _ H.fresh_tb (H.push ⟨rfl, rfl⟩ rfl))
end
end Mc
namespace Mc
section
variable {prog : Program} {w : World} {A : Around} {E : Value → Shared → Prop} {C : Cx} {its its' : List Item} {s : Shared} {it : Addr}
/-- range(a, b) -/
noncomputable def RangeI (a b : Int) (o : Obj) : Prop := ∃ t u v, o = { cls := .type "range", data := .fields #[.int a t, .int b u, .int 1 v] }
noncomputable def RangeIt (a : Int) (n : Nat) (i : Nat) (o : Obj) : Prop := o = { cls := .type "range_iterator", data := .fields #[rawInt (a + i), rawInt ((n : Int) - i), rawInt 1] }
theorem r_range1 {n : Int} {t : Tok} {Q : Value → Shared → Prop} (H : S C its s) (h : ∀ r s', S C ((r, RangeI 0 n) :: its) s' → Q (.ref r) s') : wpAny (model prog w) A (call (.type "range") [.int n t]) Q E s :=
  call_range_1 (h _ _ (H.push ⟨_, _, _, rfl⟩ rfl))
theorem r_range2 {a n : Int} {t u : Tok} {Q : Value → Shared → Prop} (H : S C its s) (h : ∀ r s', S C ((r, RangeI a n) :: its) s' → Q (.ref r) s') : wpAny (model prog w) A (call (.type "range") [.int a t, .int n u]) Q E s :=
  call_range_2 (h _ _ (H.push ⟨_, _, _, rfl⟩ rfl))
theorem rangeSize1 (a b : Int) : Builtin.Range.rangeSize a b 1 = (((b - a).toNat : Nat) : Int) := by
  unfold Builtin.Range.rangeSize
  simp
  omega
theorem it_range {r : Addr} {a b : Int} {Q : Value → Shared → Prop} (H : S C its s) (hm : (r, RangeI a b) ∈ its) (hz : -1000000 ≤ a ∧ a ≤ 1000000 ∧ -1000000 ≤ b ∧ b ≤ 1000000)
    (h : ∀ it s', it ∉ C.tb → S C ((it, RangeIt a (b - a).toNat 0) :: its) s' → Q (.ref it) s') : wpAny (model prog w) A (pyIter (.ref r)) Q E s := by
  obtain ⟨o, ho, t, u, v, rfl⟩ := H.get hm
  refine wpAny_pyIter_range (a := a) (b := b) (c := 1) ho ?_ (h _ _ H.fresh_tb (H.push ?_ rfl))
  · have f : ∀ z : Int, -3000000 ≤ z ∧ z ≤ 3000000 → Builtin.Range.rangeFitsLong z = true := fun z hz => by
      simp only [Builtin.Range.rangeFitsLong, Bool.and_eq_true, decide_eq_true_eq]; omega
    simp only [Builtin.Range.small, Bool.and_eq_true, rangeSize1]
    refine ⟨⟨⟨⟨f _ (by omega), f _ (by omega)⟩, f _ (by omega)⟩, f _ (by omega)⟩, ?_⟩
    rw [if_pos (by decide), f _ (by omega), Bool.or_true]
  · show _ = _
    rw [rangeSize1]; simp
theorem nx_range (a : Int) (n : Nat) (hit : it ∉ C.tb) : Nx prog w C it n (fun i v => ∃ t, v = .int (a + i) t) (RangeIt a n) (fun _ => True) := by
  refine ⟨fun A its s Q E i hA H hn hi h => ?_, fun A its s Q E hA H hn h => ?_⟩
  · obtain ⟨o, ho, rfl⟩ := H.get (.head _)
    refine wpAny_pyNext_range_item ho (by omega) fun h' hI hs => h _ _ ⟨_, rfl⟩ (H.up .head hs hI ?_)
    have e1 : a + (i : Int) + 1 = a + ((i + 1 : Nat) : Int) := by omega
    have e2 : (n : Int) - (i : Int) - 1 = (n : Int) - ((i + 1 : Nat) : Int) := by omega
    rw [e1, e2]
    rfl
  · obtain ⟨o, ho, rfl⟩ := H.get (.head _)
    exact wpAny_pyNext_range_end hA ho (by omega) fun h' hx => h _ (H.extBut hx hit)
end
end Mc

namespace Mc
/-- an instance, its names in the dict at dx -/
noncomputable def InstI (D dx : Addr) (o : Obj) : Prop := o = instObj D dx
section
variable {prog : Program} {w : World} {A : Around} {E : Value → Shared → Prop} {K : Frag} {gl : List (Str × Value)} {C : Cx} {its its' : List Item} {s : Shared} {x D dx : Addr} {attrs attrs' : List (Str × Value)} {ep : Option Nat} {name : Str} {X : Value}
noncomputable abbrev sk (prog : Program) (w : World) := PySem.strKind prog w
noncomputable abbrev ik (prog : Program) (w : World) := PySem.intKind prog w

theorem isStrOf_isStr (k : Str) (v : Value) : Value.isStrOf k v = v.isStr k := by
  cases v <;> rfl
theorem find_pairs {es : List DictEntry} {us : List (Str × Value)} (hp : Pairs (sk prog w) es us) (k : Str) : (es.find? fun e => e.key.isStr k).map (·.val) = valueAt us k := by
  have : (fun e : DictEntry => e.key.isStr k) = fun e => (sk prog w).is k e.key := by funext e; exact (isStrOf_isStr k e.key).symm
  rw [this]; exact hp.find k
theorem noRef {es : Array DictEntry} (h : KeysOf (sk prog w) es) : (es.toList.any (·.refKey)) = false := by
  refine List.any_eq_false.mpr fun e he => ?_
  obtain ⟨k, hk, _⟩ := h e (by simpa using he)
  obtain ⟨t, ht⟩ := Value.isStrOf_shape hk
  unfold DictEntry.refKey
  rw [ht]
  exact Bool.false_ne_true
theorem getL_pairs {es : Array DictEntry} {us : List (Str × Value)} (hk : KeysOf (sk prog w) es) (hp : Pairs (sk prog w) es.toList us) : getL name es.toList = some (valueAt us name) := by
  unfold getL
  have := find_pairs hp name
  cases h : es.toList.find? fun e => e.key.isStr name with
  | some e => rw [h] at this; exact congrArg some this
  | none => rw [h] at this; dsimp only; rw [noRef hk, ← this]; rfl
theorem InstI.at (H : S C its s) (hm : (x, InstI D dx) ∈ its) (hd : (dx, DictI (sk prog w) attrs ep) ∈ its) : ∃ es n us, W.InstAt s.heap x (instObj D dx) D (some (dictOf es n)) ∧ s.heap.get? dx = some (dictOf es n) ∧ KeysOf (sk prog w) es.toArray ∧ Pairs (sk prog w) es us ∧ us.map ek = attrs ∧ (us.map (·.1)).Nodup := by
  obtain ⟨o, ho, rfl⟩ := H.get hm
  obtain ⟨od, hod, us, ⟨es, ep', ⟨h1, h2, h3⟩, h4, h5, h6, h7⟩, h8, _⟩ := H.get hd
  obtain ⟨oc, odi, oda, osl⟩ := od
  dsimp only at h1 h2 h3 h4
  subst h1 h2 h3 h4
  have e : ({ cls := Value.type "dict", dict := none, data := Data.dict es ep', slots := #[] } : Obj) = dictOf es.toList ep' := by simp [dictOf]
  rw [e] at hod
  exact ⟨es.toList, ep', us, ⟨ho, rfl, rfl, hod⟩, hod, by simpa using h5, h6, h8, h7⟩
/-- x.name, a name of the instance's own -/
theorem r_attr {attr : Option Value} {expr : Bool} {Q : Value → Shared → Prop} (H : S C its s) (hB : Bs prog w K gl C) (hm : (x, InstI D dx) ∈ its) (hd : (dx, DictI (sk prog w) attrs ep) ∈ its) (hv : (name, X) ∈ attrs)
    (hg : plainGet K D name = true) (hh : hasDictIn K D = true) (ha : findIn K (.ref D) name = some attr) (hn : noGet K attr = true) (hx : handedIn X = true) (h : ∀ s', S C its s' → Ret X Q s') :
    wpAny (model prog w) A (getAttr (.ref x) name expr) Q E s := by
  obtain ⟨es, n, us, I, hod, hk, hp, e, nd⟩ := InstI.at H hm hd
  subst e
  obtain ⟨v, hv', e'⟩ := mem_ek hv
  have hl : getL name es = some (some v) := by
    have := getL_pairs (name := name) hk (by simpa using hp)
    rw [valueAt_mem nd hv'] at this
    simpa using this
  refine get_value (hB.k H) I (plainGet_of hg).1 (findObj_own hh ha hn hl) ?_ ((h _ H.tk).use e')
  subst e'
  cases v <;> first | rfl | exact hx
/-- x.name, a property -/
theorem r_prop {expr : Bool} {Q : Value → Shared → Prop} {p fget : Addr} {rest : List Value} (H : S C its s) (hB : Bs prog w K gl C) (hm : (x, InstI D dx) ∈ its) (hd : (dx, DictI (sk prog w) attrs ep) ∈ its)
    (hg : plainGet K D name = true) (hh : hasDictIn K D = true) (ha : findIn K (.ref D) name = some (some (.ref p))) (hn : specialIn K (.ref p) "__get__" = some (some (.builtin "property.__get__"))) (ht : takesIn K (.ref p) = some true)
    (hp : recIn K p "property" = some (.ref fget :: rest))
    (h : ∀ s' tk, S C its s' → codeAny (model prog w) A.in1 (.call (.ref fget) ⟨[.ref x], []⟩) (fun r s' => match r with | .ok (.ret v) => wpAny (model prog w) A (handedOut v) Q E s' | .ok _ => False | .error e => wpAny (model prog w) A (noteIf true (.ref x) (.str name tk) e) (fun _ s'' => E e s'') E s') s') :
    wpAny (model prog w) A (getAttr (.ref x) name expr) Q E s := by
  obtain ⟨es, n, us, I, hod, hk, hps, e, nd⟩ := InstI.at H hm hd
  exact get_bind (hB.k H) I (plainGet_of hg).1 (findObj_data (by obtain ⟨cd, hc, _⟩ := any_some hh; rw [hc]; rfl) ha hn ht) (plainGet_of hg).2 (wpAny_call (prop_get (s := { s with toks := s.toks + 1 }) (hB.k H.tk) hp (h _ _ H.tk)))
/-- x.name as a method's place -/
theorem r_meth {pl : Sem Bool} {Q : Value × List Value → Shared → Prop} {f : Addr} (H : S C its s) (hB : Bs prog w K gl C) (hm : (x, InstI D dx) ∈ its) (hd : (dx, DictI (sk prog w) attrs ep) ∈ its)
    (hg : plainGet K D name = true) (hf : findIn K (.ref D) name = some (some (.ref f))) (ht : isFn K (.ref f) = true) (hno : (attrs.map (·.1)).contains name = false) (h : Q (.ref f, [.ref x]) s) :
    wpAny (model prog w) A (getMethod (.ref x) name pl) Q E s := by
  obtain ⟨es, n, us, I, hod, hk, hp, e, nd⟩ := InstI.at H hm hd
  subst e
  have hl : getL name es = some none := by
    have := getL_pairs (name := name) hk (by simpa using hp)
    have z : valueAt us name = none := by
      cases q : valueAt us name with
      | none => rfl
      | some v =>
        unfold valueAt at q
        obtain ⟨p, hp1, hp2⟩ := Option.map_eq_some_iff.mp q
        have := List.mem_of_find?_eq_some hp1
        have h2 := List.find?_some hp1
        rw [ek_keys] at hno
        have : name ∈ us.map (·.1) := by
          rw [← of_decide_eq_true h2]; exact List.mem_map_of_mem this
        rw [List.contains_iff_mem.mpr this] at hno
        cases hno
    rw [z] at this
    simpa using this
  exact method_fn (hB.k H) I (plainGet_of hg).1 (plainGet_of hg).2 hf (beq_iff_eq.mp ht) (by show (lookIn name (dictOf es n)).map _ = _; rw [lookIn_dict, hl]; rfl) h

theorem putL_pairs {h : Int} {tk : Tok} {v : Value} : ∀ {es : List DictEntry} {us : List (Str × Value)}, Pairs (sk prog w) es us → (us.map (·.1)).Nodup → Pairs (sk prog w) (putL name h (.str name tk) v es) (stored us name v)
  | _, _, .nil, _ => by
    unfold putL stored
    exact .cons (by show Value.isStrOf name (.str name tk) = true; simp [Value.isStrOf]) rfl .nil
  | _, _, .cons (e := e) (kv := kv) (es := es) (kvs := kvs) h1 h2 h3, nd => by
    rw [List.map_cons, List.nodup_cons] at nd
    unfold putL
    have hk : e.key.isStr name = decide (kv.1 = name) := by
      rw [← isStrOf_isStr]
      have := PySem.KeyKind.is_eq_decide (knd := sk prog w) h1 name
      show (sk prog w).is name e.key = _
      rw [this]
      by_cases q : name = kv.1
      · simp [q]
      · have : ¬ kv.1 = name := fun z => q z.symm
        simp [q, this]
    rw [hk]
    by_cases q : kv.1 = name
    · rw [if_pos (by simpa using q)]
      have e1 : stored (kv :: kvs) name v = (kv.1, v) :: kvs := by
        unfold stored
        rw [List.any_cons, decide_eq_true q, Bool.true_or, if_pos rfl, List.map_cons, if_pos q, map_store_of_not_mem kvs name v (q ▸ nd.1)]
      rw [e1]
      exact .cons h1 rfl h3
    · rw [if_neg (by simpa using q)]
      have e1 : stored (kv :: kvs) name v = kv :: stored kvs name v := by
        unfold stored
        rw [List.any_cons, decide_eq_false q, Bool.false_or, List.map_cons, if_neg q]
        split <;> rfl
      rw [e1]
      exact .cons h1 h2 (putL_pairs h3 nd.2)
theorem putL_all {h : Int} {tk : Tok} {v : Value} (hh : h = (sk prog w).hash name) {es : List DictEntry} (hk : ∀ e ∈ es, ∃ k, (sk prog w).is k e.key = true ∧ e.hash = (sk prog w).hash k) :
    ∀ e ∈ putL name h (.str name tk) v es, ∃ k, (sk prog w).is k e.key = true ∧ e.hash = (sk prog w).hash k := by
  induction es with
  | nil =>
    intro e he
    obtain rfl : e = _ := List.mem_singleton.mp he
    exact ⟨name, by show Value.isStrOf name (.str name tk) = true; simp [Value.isStrOf], hh⟩
  | cons d r ih =>
    intro e he
    unfold putL at he
    split at he
    · exact (List.mem_cons.mp he).elim (fun q => q ▸ hk d (.head _)) fun he => hk e (.tail _ he)
    · exact (List.mem_cons.mp he).elim (fun q => q ▸ hk d (.head _)) fun he => ih (fun e he => hk e (.tail _ he)) e he
theorem putL_keys {h : Int} {tk : Tok} {v : Value} (hh : h = (sk prog w).hash name) {es : List DictEntry} (hk : KeysOf (sk prog w) es.toArray) : KeysOf (sk prog w) (putL name h (.str name tk) v es).toArray := fun e he =>
  putL_all hh (fun e he => hk e (by simpa using he)) e (by simpa using he)
theorem keyHash_is : PyData.keyHash w.params name = (sk prog w).hash name := rfl

/-- x.name = v -/
theorem r_setattr {v : Value} {Q : Unit → Shared → Prop} (H : S C its s) (hB : Bs prog w K gl C) (hm : (x, InstI D dx) ∈ its) (hv : er v = X) (hU : Up dx (DictI (sk prog w) attrs ep) (DictI (sk prog w) (stored attrs name X) none) its its')
    (hs : findIn K (.ref D) "__setattr__" = some (some (.builtin "object.__setattr__"))) (hp : plainOver K D = true) (ht : takerIn K D name = some none) (hh : hasDictIn K D = true) (hz : attrs.length ≤ 900)
    (h : ∀ s', S C its' s' → Q () s') : wpAny (model prog w) A (setAttr (.ref x) name v) Q E s := by
  subst hv
  obtain ⟨es, n, us, I, hod, hk, hps, e, nd⟩ := InstI.at H hm hU.mem
  subst e
  refine set_plain (hB.k H) I hs ?_
  obtain ⟨s0, H0, rfl⟩ : ∃ s0, S C its s0 ∧ s0 = (⟨s.heap, s.gens, s.drawn, s.toks + 1, s.os⟩ : Shared) := ⟨_, H.tk, rfl⟩
  refine osa_open (hB.k H0) I hp ht fun b => ?_
  obtain ⟨cd, hc, hd'⟩ := any_some hh
  obtain ⟨hx, hcl, hn, -⟩ := id I
  refine wpAny_bind (wpAny_pure (wpAny_bind (wpAny_bind (wpAny_loadPart hx (wpAny_bind ((looks_clsIn (hB.k H0) hc).here ?_))))))
  rw [hd']
  refine wpAny_pure (a := some dx) (wpAny_bind (wpAny_pure (wpAny_bind ?_)))
  unfold nsSet
  refine wpAny_bind (wpAny_bind (wpAny_askSetting (wpAny_pure (wpAny_bind (wpAny_mkText (wpAny_bind (wpAny_loadPart hod ?_)))))))
  have c : (!es.toArray.any (·.key.isStr name) && es.toArray.any (·.refKey)) = false := by
    have : es.toArray.any (·.refKey) = false := by rw [← Array.any_toList]; exact noRef hk
    rw [this, Bool.and_false]
  dsimp only
  rw [aRefKeyMayBeTheName_at, c]
  refine wpAny_updatePart hod ?_
  have ge := Heap.get?_update_self (Obj.putName name (PyData.keyHash w.params name) (.str name (s.toks + 1)) v) hod (by rw [putName_dict]; rfl)
  rw [putName_dict] at ge
  have el : es.length = us.length := hps.length
  rw [List.length_map] at hz
  refine wpAny_bind (wpAny_lookBehind ge (pastItsLine_dict ?_) ?_)
  · have l2 := (putL_pairs (name := name) (h := PyData.keyHash w.params name) (tk := s.toks + 1) (v := v) hps nd).length
    have l3 : (stored us name v).length ≤ us.length + 1 := by
      unfold stored; split <;> simp
    rw [List.size_toArray, l2, sizeLine_eq]; omega
  · refine wpAny_pure (h _ ?_)
    have hsb : Heap.SameBut dx s.heap (s.heap.update dx (Obj.putName name (PyData.keyHash w.params name) (.str name (s.toks + 1)) v)) := Heap.SameBut.update ..
    refine H.up hU hsb ge ⟨stored us name v, ⟨_, _, ⟨rfl, rfl, rfl⟩, rfl, ?_, ?_, ?_⟩, stored_ek, nofun⟩
    · exact putL_keys keyHash_is hk
    · simpa using putL_pairs hps nd
    · exact nodup_stored nd
end
end Mc

namespace Mc
section
variable {prog : Program} {w : World} {A : Around} {E : Value → Shared → Prop} {K : Frag} {gl : List (Str × Value)} {C : Cx} {its its' : List Item} {s : Shared} {L : Addr} {loc : List (Str × Option Value)}

/-- every object of the heap but the one at L -/
noncomputable def allNews (h : Heap) (L : Addr) : List (Addr × Obj) := (List.range h.objs.size).filterMap fun a => if a = L then none else (h.get? a).map (a, ·)
theorem mem_allNews {h : Heap} {L : Addr} {p : Addr × Obj} : p ∈ allNews h L ↔ h.get? p.1 = some p.2 ∧ p.1 ≠ L := by
  unfold allNews
  rw [List.mem_filterMap]
  constructor
  · rintro ⟨a, _, h2⟩
    by_cases hL : a = L
    · rw [if_pos hL] at h2; cases h2
    · rw [if_neg hL] at h2
      obtain ⟨o, ho, rfl⟩ := Option.map_eq_some_iff.mp h2
      exact ⟨ho, hL⟩
  · rintro ⟨h1, h2⟩
    exact ⟨p.1, List.mem_range.mpr (Heap.lt_size h1), by rw [if_neg h2, h1]; rfl⟩

/-- the ledger as the library's own facts, and back -/
theorem S.fn (H : S C its s) (hm : (L, NsI loc) ∈ its) : ∃ m news, Fr {} L s.heap m ∧ News {} L s.heap news ∧ (∀ p ∈ its, p.1 ≠ L → ∃ o, (p.1, o) ∈ news ∧ p.2 o) ∧ (∀ a o, s.heap.get? a = some o → a ≠ L → (a, o) ∈ news) ∧
    (∀ h' d t, Fr {} L h' m → News {} L h' news → S C its ⟨h', s.gens, d, t, s.os⟩) ∧
    (∀ h' d t B o (P : Obj → Prop), Fr {} L h' m → News {} L h' ((B, o) :: news) → P o → (∀ q ∈ news, q.1 < B) → S C ((B, P) :: its) ⟨h', s.gens, d, t, s.os⟩) := by
  suffices main : ∃ m news, Fr {} L s.heap m ∧ News {} L s.heap news ∧ (∀ p ∈ its, p.1 ≠ L → ∃ o, (p.1, o) ∈ news ∧ p.2 o) ∧ (∀ a o, s.heap.get? a = some o → a ≠ L → (a, o) ∈ news) ∧
    (∀ h' d t, Fr {} L h' m → News {} L h' news → S C its ⟨h', s.gens, d, t, s.os⟩) by
    obtain ⟨m, news, F, N, h1, h2, h3⟩ := main
    refine ⟨m, news, F, N, h1, h2, h3, fun h' d t B o P F' N' hP hB => ?_⟩
    have H' := h3 h' d t F' fun p hp => N' p (.tail _ hp)
    have hne : ∀ a o', s.heap.get? a = some o' → a ≠ B := fun a o' e z => by
      subst z
      by_cases q : a = L
      · exact absurd q (N' _ (.head _)).2.1
      · exact absurd (hB _ (h2 _ _ e q)) (Nat.lt_irrefl _)
    refine ⟨H'.keep, fun p hp => ?_, fun p hp => ?_, ?_, H'.tbs, H'.gens, H'.os, H'.big, fun hm' => ?_⟩
    · rcases List.mem_cons.mp hp with rfl | hp
      · exact ⟨o, (N' _ (.head _)).1, hP⟩
      · exact H'.own p hp
    · rcases List.mem_cons.mp hp with rfl | hp
      · by_cases q : B ∈ C.tb
        · exact .inr q
        · refine .inl ?_
          cases z : C.B.get? B with
          | none => rfl
          | some o' => exact absurd rfl (hne _ _ (H.keep _ _ z q))
      · exact H'.new p hp
    · rw [List.map_cons]
      refine List.nodup_cons.mpr ⟨fun hm' => ?_, H'.nd⟩
      obtain ⟨p, hp, e⟩ := List.mem_map.mp hm'
      obtain ⟨o', e', _⟩ := H.own p hp
      exact hne _ _ e' e
    · rcases List.mem_cons.mp hm' with e | hm'
      · obtain ⟨b, ob, b1, b2, b3⟩ := H.big
        have b4 : b ≠ L := fun z => by
          subst z
          rcases H.new _ hm with q | q
          · rw [q] at b2; cases b2
          · exact b3 q
        have b5 := hB _ (h2 _ _ (H.keep b ob b2 b3) b4)
        exact Nat.lt_asymm b1 (Nat.lt_of_lt_of_eq b5 e.symm)
      · exact H'.n1 hm'
  obtain ⟨o, ho, hN⟩ := H.get hm
  obtain ⟨es, ep, hd, hsk, hnd, hloc⟩ := id hN
  refine ⟨fun x => nsFind es x, allNews s.heap L, ⟨⟨o, es, ep, ho, hd, hsk, fun _ => rfl⟩, fun b o e => ?_, Nat.zero_le _⟩, fun p hp => ⟨(mem_allNews.mp hp).1, (mem_allNews.mp hp).2, ?_⟩, fun p hp hL => ?_, fun a o e hne => mem_allNews.mpr ⟨e, hne⟩, fun h' d t F N => ?_⟩
  · simp [Heap.get?] at e
  · simp [Heap.get?]
  · obtain ⟨o, e, hP⟩ := H.own p hp
    exact ⟨o, mem_allNews.mpr ⟨e, hL⟩, hP⟩
  · have hL := H.new _ hm
    have kp : ∀ a o, s.heap.get? a = some o → a ≠ L → h'.get? a = some o := fun a o e hne => (N (a, o) (mem_allNews.mpr ⟨e, hne⟩)).1
    refine ⟨fun b o e hb => kp b o (H.keep b o e hb) fun z => ?_, fun p hp => ?_, H.new, H.nd, fun a ha => ?_, H.gens, H.os, H.big, H.n1⟩
    · subst z
      rcases hL with hL | hL
      · rw [hL] at e; cases e
      · exact hb hL
    · by_cases hz : p.1 = L
      · obtain ⟨o', es', ep', ho', hd', hk', hf'⟩ := F.ns
        have : p = (L, NsI loc) := H.ne hp hm hz
        subst this
        exact ⟨o', ho', es', ep', hd', hk', hnd, fun q hq => by rw [hf']; exact hloc q hq⟩
      · obtain ⟨o, e, hP⟩ := H.own p hp
        exact ⟨o, kp _ _ e hz, hP⟩
    · obtain ⟨o, e⟩ := H.tbs a ha
      by_cases hz : a = L
      · subst hz
        obtain ⟨o', _, _, ho', _⟩ := F.ns
        exact ⟨o', ho'⟩
      · exact ⟨o, kp _ _ e hz⟩

/-- two places of the ledger -/
inductive Ne2 (a b : Addr) : List Item → Prop
  | l {P P' r} : (b, P') ∈ r → Ne2 a b ((a, P) :: r)
  | r {P P' r} : (a, P') ∈ r → Ne2 a b ((b, P) :: r)
  | tail {p r} : Ne2 a b r → Ne2 a b (p :: r)
noncomputable def ViewI (T : String) (d : Addr) (o : Obj) : Prop := o = { cls := .type T, data := .fields #[.ref d] }
section
variable {α : Type} [DecidableEq α] {knd : PySem.KeyKind prog w α} {kvs : List (α × Value)} {d v : Addr} {ep : Option Nat}
end
theorem ints_of {vs : List Value} {us : List (Int × Value)} (hl : vs.length = us.length) (h : ∀ (j : Nat) (v : Value), vs[j]? = some v → ∃ k x, us[j]? = some (k, x) ∧ (ik prog w).is k v = true) : IntsAre vs (us.map (·.1)) := by
  induction vs generalizing us with
  | nil => rw [List.length_eq_zero_iff.mp hl.symm]; exact .nil
  | cons v vs ih =>
    cases us with
    | nil => exact nomatch hl
    | cons p us =>
      obtain ⟨k', x', e, hk⟩ := h 0 v rfl
      obtain ⟨t, rfl⟩ := Value.isInt_shape hk
      obtain rfl : p = (k', x') := Option.some.inj e
      exact .cons _ _ (ih (Nat.succ.inj hl) fun j u hu => h (j + 1) u hu)
theorem ints_er {vs : List Value} {ns : List Int} (h : IntsAre vs ns) : vs.map er = ns.map fun n => .int n 0 := by
  induction h with
  | nil => rfl
  | cons n t _ ih => rw [List.map_cons, List.map_cons, ih]; rfl
theorem r_sorted_keys {kvs : List (Int × Value)} {d v : Addr} {ep : Option Nat} {Q : Value → Shared → Prop} (H : S C its s) (hA : A.handled = none) (hL : (L, NsI loc) ∈ its) (hv : (v, ViewI "dict_keys" d) ∈ its) (hd : (d, DictI (ik prog w) kvs ep) ∈ its) (hz : kvs.length < 64)
    (h : ∀ (B : Addr) (ns : List Int) s', ns.Perm (kvs.map (·.1)) → ns.Pairwise (· ≤ ·) → S C ((B, ListI (ns.map fun n => .int n 0)) :: its) s' → Q (.ref B) s') :
    wpAny (model prog w) A (call (.builtin "sorted") [.ref v]) Q E s := by
  obtain ⟨m, news, F, N, h1, h2, h3, h4⟩ := H.fn hL
  obtain ⟨od, hod, hD⟩ := H.get hd
  obtain ⟨ov, hov, rfl⟩ := H.get hv
  obtain ⟨us, hD', e⟩ := hD.at hod
  obtain ⟨ep', hat⟩ := hD'.dictAt
  have hl : us.length = kvs.length := by rw [← e]; simp
  refine kdu_sorted (kdl_keys (knd := ik prog w) (kvs := us) (ep := ep')) hA F N ⟨⟨_, hov, rfl, rfl⟩, hat⟩ (by rw [sizeLine_eq]; omega) fun D h' tk vs F' N' hlt hl' hP => ?_
  have hI : IntsAre vs (us.map (·.1)) := ints_of hl' hP
  refine ksk_lsort F' N' (fun o => Upd.head fun p hp => Nat.ne_of_lt (hlt p hp)) (by simp) hI (by rw [List.length_map]; omega) fun vs' ns' c h'' F'' N'' hI' _ hp hs _ => ?_
  refine h D ns' _ (hp.trans (List.Perm.of_eq (by rw [← e, ek_keys]))) hs (h4 _ _ _ _ _ _ F'' N'' ⟨_, _, rfl, by simpa using ints_er hI'⟩ hlt)
end
end Mc
namespace Mc
section
variable {prog : Program} {w : World} {A : Around} {E : Value → Shared → Prop} {K : Frag} {gl : List (Str × Value)} {C : Cx} {its its' : List Item} {s : Shared} {L : Addr} {loc : List (Str × Option Value)}
theorem strIs (x : Str) (t : Tok) : (sk prog w).is x (.str x t) = true := by show Value.isStrOf x (.str x t) = true; simp [Value.isStrOf]
theorem intIs (i : Int) (t : Tok) : (ik prog w).is i (.int i t) = true := by show Value.isInt i (.int i t) = true; simp [Value.isInt]
theorem Ret.cases {X : Value} {Q : Value → Shared → Prop} (h : ∀ v, er v = er X → Q v s) : Ret X Q s := by
  cases X <;> first | exact h _ rfl | exact fun t => h _ rfl
variable {α : Type} [DecidableEq α] {knd : PySem.KeyKind prog w α} {kvs : List (α × Value)} {d v : Addr} {ep : Option Nat} {k : α} {key dflt X : Value} {t : Tok}
/-- d.pop(key) of a key that is there -/
theorem r_pop {Q : Value → Shared → Prop} {rest : List Value} (H : S C its s) (hk : knd.is k key = true) (hp : (keyPart key).isSome = true) (hr : rest = [] ∨ ∃ dflt, rest = [dflt]) (ha : argsOk "dict.pop" ⟨.ref d :: key :: rest, []⟩)
    (hU : Up d (DictI knd kvs ep) (DictI knd (without kvs k) none) its its') (hv : valueAt kvs k = some X) (hz : kvs.length ≤ 100000) (h : ∀ s', S C its' s' → Ret X Q s') :
    wpAny (model prog w) A (call (.builtin "dict.pop") (.ref d :: key :: rest)) Q E s := by
  obtain ⟨o, ho, hD⟩ := H.get hU.mem
  obtain ⟨us, h1, h2⟩ := hD.at ho
  subst h2
  rw [valueAt_ek] at hv
  obtain ⟨u, hu, e⟩ := map_er hv
  have hlen : us.length ≤ sizeLine := by rw [List.length_map] at hz; rw [sizeLine_eq]; omega
  exact call_meetsIn PySem.F.slot_dict_pop h1.typeIs PySem.F.entry_dict_pop ha (meets_dict_pop_there knd d hk rest hr hp) ⟨us, u, h1, hlen, hu, fun h' hd hs => (h _ (S.upD (Q := fun _ _ => True) H hU hd hs without_ek)).use e⟩
/-- d.pop(key, dflt) of a key that is not there -/
theorem r_pop_none {Q : Value → Shared → Prop} (H : S C its s) (hk : knd.is k key = true) (hp : (keyPart key).isSome = true) (hS : (d == sysModules) = false)
    (hm : (d, DictI knd kvs ep) ∈ its) (hv : valueAt kvs k = none) (h : ∀ s', S C its s' → Q dflt s') :
    wpAny (model prog w) A (call (.builtin "dict.pop") [.ref d, key, dflt]) Q E s := by
  obtain ⟨o, ho, hD⟩ := H.get hm
  obtain ⟨us, h1, h2⟩ := hD.at ho
  subst h2
  rw [valueAt_ek, Option.map_eq_none_iff] at hv
  exact call_meetsIn PySem.F.slot_dict_pop h1.typeIs PySem.F.entry_dict_pop (PySem.F.args_dict_pop_3 _ _ _) (meets_dict_pop_default knd d hk hS hp dflt) ⟨us, h1, hv, h _ H.tk⟩
/-- d.get(key, dflt) -/
theorem r_get2 {Q : Value → Shared → Prop} (H : S C its s) (hk : knd.is k key = true) (hS : (d == sysModules) = false)
    (hm : (d, DictI knd kvs ep) ∈ its) (h : ∀ s', S C its s' → match valueAt kvs k with | some X => Ret X Q s' | none => Q dflt s') :
    wpAny (model prog w) A (call (.builtin "dict.get") [.ref d, key, dflt]) Q E s := by
  obtain ⟨o, ho, hD⟩ := H.get hm
  obtain ⟨us, h1, h2⟩ := hD.at ho
  subst h2
  refine call_meetsIn PySem.F.slot_dict_get h1.typeIs PySem.F.entry_dict_get (PySem.F.args_dict_get_3 _ _ _) (meets_dict_get_default knd d hk hS dflt) ⟨_, DictOf.mapOf h1, ?_⟩
  have := h _ (H.tk (d := s.drawn) (t := s.toks + 1))
  rw [valueAt_ek] at this
  cases q : valueAt us k with
  | none => rw [q] at this; exact this
  | some u => rw [q] at this; exact this.use rfl
theorem r_get1 {Q : Value → Shared → Prop} (H : S C its s) (hk : knd.is k key = true) (hS : (d == sysModules) = false)
    (hm : (d, DictI knd kvs ep) ∈ its) (h : ∀ s', S C its s' → Ret ((valueAt kvs k).getD .none) Q s') :
    wpAny (model prog w) A (call (.builtin "dict.get") [.ref d, key]) Q E s := by
  obtain ⟨o, ho, hD⟩ := H.get hm
  obtain ⟨us, h1, h2⟩ := hD.at ho
  subst h2
  refine call_meetsIn PySem.F.slot_dict_get h1.typeIs PySem.F.entry_dict_get (PySem.F.args_dict_get_2 _ _) (meets_dict_get knd d hk hS) ⟨_, DictOf.mapOf h1, ?_⟩
  have := h _ (H.tk (d := s.drawn) (t := s.toks + 1))
  rw [valueAt_ek] at this
  cases q : valueAt us k with
  | none => rw [q] at this; exact this
  | some u => rw [q] at this; exact this.use rfl
/-- del d[key] of a key that is there -/
theorem r_delItem {Q : Unit → Shared → Prop} (H : S C its s) (hk : knd.is k key = true) (hp : (keyPart key).isSome = true)
    (hU : Up d (DictI knd kvs ep) (DictI knd (without kvs k) none) its its') (hv : (valueAt kvs k).isSome = true) (hz : kvs.length ≤ 100000) (h : ∀ s', S C its' s' → Q () s') :
    wpAny (model prog w) A (delItem (.ref d) key) Q E s := by
  obtain ⟨o, ho, hD⟩ := H.get hU.mem
  obtain ⟨us, h1, h2⟩ := hD.at ho
  subst h2
  have hlen : us.length ≤ sizeLine := by rw [List.length_map] at hz; rw [sizeLine_eq]; omega
  refine wpAny_delItem_slot h1.typeIs rfl PySem.F.slot_dict_delitem ?_
  refine call_meetsIn PySem.F.slot_dict_delitem h1.typeIs PySem.F.entry_dict_delitem (PySem.F.args_dict_delitem_2 _ _) (meets_dict_delitem_pairs knd d hk) ⟨us, h1, hlen, by rw [valueAt_ek, Option.isSome_map] at hv; exact hv, fun h' hd hs => h _ (S.upD (Q := fun _ _ => True) H hU hd hs without_ek)⟩
end
end Mc

namespace Mc
section
variable {prog : Program} {w : World} {A : Around} {E : Value → Shared → Prop} {K : Frag} {gl : List (Str × Value)} {C : Cx} {its its' : List Item} {s : Shared} {L a : Addr} {loc : List (Str × Option Value)} {value slice : PySem.Expr} {Q : Value → Shared → Prop} {vs : List Value} {X v : Value} {i : Int} {t : Tok}
section
variable {α : Type} [DecidableEq α] {knd : PySem.KeyKind prog w α} {kvs : List (α × Value)} {ep : Option Nat} {k : α} {key : Value}
theorem sub_dict (H : S C its s) (hm : (a, DictI knd kvs ep) ∈ its) (hk : knd.is k key = true) (hv : valueAt kvs k = some X) (hs : subscripted slice false (.ref a) key = operate [.ref a, key] (getItem (.ref a) key)) (h : ∀ s', S C its s' → Ret X Q s') :
    wpAny (model prog w) A (subscriptTail value slice (.ref a) key) Q E s := by
  obtain ⟨o, ho, us, ⟨es, ep', ⟨h1, h2, h3⟩, _⟩, _⟩ := H.get hm
  exact tail_any ⟨o, ho, h1⟩ PySem.F.slot_dict_getitem.lookup (r_getItem H hm hk hv h) hs
theorem sub_dict_m (H : S C its s) (hm : (a, DictI knd kvs ep) ∈ its) (hk : knd.is k key = true) (hv : (k, X) ∈ kvs) (hs : subscripted slice false (.ref a) key = operate [.ref a, key] (getItem (.ref a) key)) (h : ∀ s', S C its s' → Ret X Q s') :
    wpAny (model prog w) A (subscriptTail value slice (.ref a) key) Q E s := by
  obtain ⟨o, ho, hD⟩ := H.get hm
  exact sub_dict H hm hk (valueAt_mem hD.nodup hv) hs h
end
/-- xs[i], i in bounds -/
theorem r_list_item (H : S C its s) (hm : (a, ListI vs) ∈ its) (h0 : 0 ≤ i) (hz : i < 9223372036854775808) (hv : vs[i.toNat]? = some X) (h : Ret X Q s) : wpAny (model prog w) A (getItem (.ref a) (.int i t)) Q E s := by
  obtain ⟨o, ho, hL⟩ := H.get hm
  obtain ⟨us, n, hi, e⟩ := hL.at ho
  rw [er_get e] at hv
  obtain ⟨v, hv', e'⟩ := map_er hv
  exact wpAny_getItem_list (IsL.list hi) h0 (by simpa using hz) hv' (h.use e')
theorem sub_list (H : S C its s) (hm : (a, ListI vs) ∈ its) (h0 : 0 ≤ i) (hz : i < 9223372036854775808) (hv : vs[i.toNat]? = some X) (hs : subscripted slice false (.ref a) (.int i t) = operate [.ref a, .int i t] (getItem (.ref a) (.int i t))) (h : Ret X Q s) :
    wpAny (model prog w) A (subscriptTail value slice (.ref a) (.int i t)) Q E s := by
  obtain ⟨o, ho, us, n, rfl, _⟩ := H.get hm
  exact tail_any ⟨_, ho, rfl⟩ slot_list_getitem.lookup (r_list_item H hm h0 hz hv h) hs
theorem r_append (H : S C its s) (hv : er v = X) (hU : Up a (ListI vs) (ListI (vs ++ [X])) its its') (hz : vs.length ≤ 1000000) (h : ∀ s', S C its' s' → Q .none s') : wpAny (model prog w) A (call (.builtin "list.append") [.ref a, v]) Q E s := by
  subst hv
  obtain ⟨o, ho, us, n, rfl, e⟩ := H.get hU.mem
  refine wpAny_list_append_plain (items := us) ⟨_, ho⟩ (fun h' ⟨n', hp⟩ hs => h _ (H.up hU hs hp ⟨_, _, rfl, ?_⟩)) ?_
  · rw [Array.toList_push, List.map_append, e]; rfl
  · have := len_er e
    rw [this, sizeLine_eq]; omega
/-- a new list -/
theorem r_newList {us : List Value} (H : S C its s) (he : ErL us vs) (hz : us.length ≤ 1000000) (h : ∀ l s', S C ((l, ListI vs) :: its) s' → Q (.ref l) s') : wpAny (model prog w) A (newList us) Q E s := by
  refine wpAny_newObj_type (h _ _ (H.push ⟨us.toArray, 0, rfl, by simpa using he.eq⟩ rfl)) ?_
  show us.toArray.size ≤ sizeLine
  rw [List.size_toArray, sizeLine_eq]; omega
theorem r_newTuple {us : List Value} (H : S C its s) (he : ErL us vs) (hz : us.length ≤ 1000000) (h : ∀ l s', S C ((l, TupI vs) :: its) s' → Q (.ref l) s') : wpAny (model prog w) A (newTuple us) Q E s := by
  refine wpAny_newObj_type (h _ _ (H.push ⟨us.toArray, 0, rfl, by simpa using he.eq⟩ rfl)) ?_
  show us.toArray.size ≤ sizeLine
  rw [List.size_toArray, sizeLine_eq]; omega
/-- xs.pop(0) -/
theorem r_pop0 (H : S C its s) (hU : Up a (ListI (X :: vs)) (ListI vs) its its') (hz : vs.length ≤ 1000000) (h : ∀ s', S C its' s' → Ret X Q s') : wpAny (model prog w) A (call (.builtin "list.pop") [.ref a, .int 0 t]) Q E s := by
  obtain ⟨o, ho, us, n, rfl, e⟩ := H.get hU.mem
  have hlen := len_er e
  have hx := er_get e 0
  rw [List.getElem?_cons_zero] at hx
  obtain ⟨y, hy, e'⟩ := map_er hx.symm
  rw [List.length_cons] at hlen
  have hk : seqIndex? 0 us.size = some 0 := by simp [seqIndex?, hlen]
  refine call_meets PySem.F.slot_list_pop ⟨_, ho, rfl⟩ PySem.F.entry_list_pop (PySem.F.args_list_pop_2 _ _) (MeetsSeq.list_pop_at a us n 0 t 0 y (by decide +kernel) hk hy (by rw [hlen, sizeLine_eq]; omega)) ⟨ho, ?_⟩
  refine (h _ (H.up hU (Heap.SameBut.update ..) (Heap.get?_update_self _ ho rfl) ⟨us.eraseIdxIfInBounds 0, _, rfl, ?_⟩)).use e'
  have : (us.eraseIdxIfInBounds 0).toList = us.toList.tail := by
    obtain ⟨l⟩ := us
    cases l <;> simp [Array.eraseIdxIfInBounds]
  rw [this, List.map_tail, e]; rfl
variable {x D dx : Addr} {attrs attrs' : List (Str × Value)} {ep : Option Nat} {name : Str}
theorem r_setattr_m {Q : Unit → Shared → Prop} (H : S C its s) (hB : Bs prog w K gl C) (hm : (x, InstI D dx) ∈ its) (hv : er v = X) (hm' : (dx, DictI (sk prog w) attrs ep) ∈ its) (hd : Du name X attrs attrs') (hU : Up dx (DictI (sk prog w) attrs ep) (DictI (sk prog w) attrs' none) its its')
    (hs : findIn K (.ref D) "__setattr__" = some (some (.builtin "object.__setattr__"))) (hp : plainOver K D = true) (ht : takerIn K D name = some none) (hh : hasDictIn K D = true) (hz : attrs.length ≤ 900)
    (h : ∀ s', S C its' s' → Q () s') : wpAny (model prog w) A (setAttr (.ref x) name v) Q E s := by
  obtain ⟨o, ho, hD⟩ := H.get hU.mem
  rw [← hd.stored hD.nodup] at hU
  exact r_setattr H hB hm hv hU hs hp ht hh hz h
theorem r_setattr_new {Q : Unit → Shared → Prop} (H : S C its s) (hB : Bs prog w K gl C) (hm : (x, InstI D dx) ∈ its) (hv : er v = X) (hn : (attrs.map (·.1)).contains name = false) (hU : Up dx (DictI (sk prog w) attrs ep) (DictI (sk prog w) (attrs ++ [(name, X)]) none) its its')
    (hs : findIn K (.ref D) "__setattr__" = some (some (.builtin "object.__setattr__"))) (hp : plainOver K D = true) (ht : takerIn K D name = some none) (hh : hasDictIn K D = true) (hz : attrs.length ≤ 900)
    (h : ∀ s', S C its' s' → Q () s') : wpAny (model prog w) A (setAttr (.ref x) name v) Q E s := by
  rw [← stored_new hn] at hU
  exact r_setattr H hB hm hv hU hs hp ht hh hz h
section
variable {α : Type} [DecidableEq α] {knd : PySem.KeyKind prog w α} {kvs : List (α × Value)} {ep : Option Nat} {k : α} {key : Value}
theorem r_notIn_f (H : S C its s) (hm : (a, DictI knd kvs ep) ∈ its) (hk : knd.is k key = true) (ha : (a == sysModules) = false) (hv : valueAt kvs k = some X) (h : ∀ s', S C its s' → Q (.bool false) s') :
    wpAny (model prog w) A (compareOp .NotIn key (.ref a)) Q E s := r_notIn H hm hk ha fun s' H' => by rw [hv]; exact h s' H'
theorem r_get2_s {d : Value} (H : S C its s) (hm : (a, DictI knd kvs ep) ∈ its) (hk : knd.is k key = true) (ha : (a == sysModules) = false) (hv : valueAt kvs k = some X) (h : ∀ s', S C its s' → Ret X Q s') :
    wpAny (model prog w) A (call (.builtin "dict.get") [.ref a, key, d]) Q E s := r_get2 H hk ha hm fun s' H' => by rw [hv]; exact h s' H'
theorem r_get2_n {d : Value} (H : S C its s) (hm : (a, DictI knd kvs ep) ∈ its) (hk : knd.is k key = true) (ha : (a == sysModules) = false) (hv : valueAt kvs k = none) (h : ∀ s', S C its s' → Q d s') :
    wpAny (model prog w) A (call (.builtin "dict.get") [.ref a, key, d]) Q E s := r_get2 H hk ha hm fun s' H' => by rw [hv]; exact h s' H'
theorem r_delItem_s {Q : Unit → Shared → Prop} (H : S C its s) (hk : knd.is k key = true) (hp : (keyPart key).isSome = true)
    (hU : Up a (DictI knd kvs ep) (DictI knd (without kvs k) none) its its') (hv : valueAt kvs k = some X) (hz : kvs.length ≤ 100000) (h : ∀ s', S C its' s' → Q () s') :
    wpAny (model prog w) A (delItem (.ref a) key) Q E s := r_delItem H hk hp hU (by rw [hv]; rfl) hz h
end
end
end Mc
namespace Mc
section
variable {prog : Program} {w : World} {A : Around} {E : Value → Shared → Prop} {C : Cx} {its its' : List Item} {s : Shared} {a : Addr} {Q : Value → Shared → Prop} {X : Value} {α : Type} [DecidableEq α] {knd : PySem.KeyKind prog w α} {kvs : List (α × Value)} {ep : Option Nat} {k : α} {key : Value}
theorem r_in_t (H : S C its s) (hm : (a, DictI knd kvs ep) ∈ its) (hk : knd.is k key = true) (ha : (a == sysModules) = false) (hv : valueAt kvs k = some X) (h : ∀ s', S C its s' → Q (.bool true) s') :
    wpAny (model prog w) A (compareOp .In key (.ref a)) Q E s := r_in H hm hk ha fun s' H' => by rw [hv]; exact h s' H'
theorem r_in_f (H : S C its s) (hm : (a, DictI knd kvs ep) ∈ its) (hk : knd.is k key = true) (ha : (a == sysModules) = false) (hv : valueAt kvs k = none) (h : ∀ s', S C its s' → Q (.bool false) s') :
    wpAny (model prog w) A (compareOp .In key (.ref a)) Q E s := r_in H hm hk ha fun s' H' => by rw [hv]; exact h s' H'
end
end Mc
namespace Mc
inductive Pk1 (p : Item) : List Item → List Item → Prop
  | head {r} : Pk1 p (p :: r) r
  | tail {q r r'} : Pk1 p r r' → Pk1 p (q :: r) (q :: r')
theorem Pk1.perm {p : Item} {l l' : List Item} (h : Pk1 p l l') : l.Perm (p :: l') := by
  induction h with
  | head => exact List.Perm.refl _
  | tail _ ih => exact (List.Perm.cons _ ih).trans (List.Perm.swap _ _ _)
inductive Pks : List Item → List Item → List Item → Prop
  | nil {l} : Pks [] l l
  | cons {p ps l l₁ l₂} : Pk1 p l l₁ → Pks ps l₁ l₂ → Pks (p :: ps) l l₂
theorem Pks.perm {ps l l' : List Item} (h : Pks ps l l') : l.Perm (ps ++ l') := by
  induction h with
  | nil => exact List.Perm.refl _
  | cons h1 _ ih => exact h1.perm.trans (List.Perm.cons _ ih)
theorem S.pick {C : Cx} {its ps l rest : List Item} {s : Shared} (H : S C its s) (h : Pks ps its l) (hr : rest.Sublist l) : S C (ps ++ rest) s :=
  (H.perm h.perm).mono (List.Sublist.append_left hr ps)
end Mc
namespace Mc
section
variable {prog : Program} {w : World} {A : Around} {E : Value → Shared → Prop} {C : Cx} {its its' : List Item} {s : Shared} {d : Addr} {Q : Value → Shared → Prop} {X dflt : Value} {α : Type} [DecidableEq α] {knd : PySem.KeyKind prog w α} {kvs : List (α × Value)} {ep : Option Nat} {k : α} {key : Value}
theorem r_pop1 (H : S C its s) (hk : knd.is k key = true) (hp : (keyPart key).isSome = true) (hU : Up d (DictI knd kvs ep) (DictI knd (without kvs k) none) its its') (hv : valueAt kvs k = some X) (hz : kvs.length ≤ 100000) (h : ∀ s', S C its' s' → Ret X Q s') :
    wpAny (model prog w) A (call (.builtin "dict.pop") [.ref d, key]) Q E s := r_pop H hk hp (.inl rfl) (PySem.F.args_dict_pop_2 _ _) hU hv hz h
theorem r_pop2 (H : S C its s) (hk : knd.is k key = true) (hp : (keyPart key).isSome = true) (hU : Up d (DictI knd kvs ep) (DictI knd (without kvs k) none) its its') (hv : valueAt kvs k = some X) (hz : kvs.length ≤ 100000) (h : ∀ s', S C its' s' → Ret X Q s') :
    wpAny (model prog w) A (call (.builtin "dict.pop") [.ref d, key, dflt]) Q E s := r_pop H hk hp (.inr ⟨_, rfl⟩) (PySem.F.args_dict_pop_3 _ _ _) hU hv hz h
end
end Mc

namespace Mc
section
variable {prog : Program} {w : World} {A : Around} {E : Value → Shared → Prop} {K : Frag} {gl : List (Str × Value)} {C : Cx} {its its' : List Item} {s : Shared} {L a it : Addr} {loc : List (Str × Option Value)} {vs : List Value} {X v : Value} {x D dx : Addr} {attrs attrs' : List (Str × Value)} {ep : Option Nat} {name : Str}
/-- x.name(..) where name is a thing of the instance's own -/
theorem r_meth_own {pl : Sem Bool} {Q : Value × List Value → Shared → Prop} (H : S C its s) (hB : Bs prog w K gl C) (hm : (x, InstI D dx) ∈ its) (hd : (dx, DictI (sk prog w) attrs ep) ∈ its)
    (hv : (name, X) ∈ attrs) (hg : plainGet K D name = true) (hh : hasDictIn K D = true) (hf : findIn K (.ref D) name = some none) (hx : handedIn X = true) (h : ∀ s', S C its s' → Ret X (fun v => Q (v, [])) s') :
    wpAny (model prog w) A (getMethod (.ref x) name pl) Q E s := by
  obtain ⟨es, n, us, I, hod, hk, hp, e, nd⟩ := InstI.at H hm hd
  exact method_usual (hB.k H) I (plainGet_of hg).1 (plainGet_of hg).2 hf rfl (r_attr H hB hm hd hv hg hh hf rfl hx h)
/-- C(..) -/
theorem r_make {R : Result → Shared → Prop} {rest : List Value} {kw : List (Str × Value)} {fI : Addr} (H : S C its s) (hB : Bs prog w K gl C) (hm : makesIn K D = true) (hi : findIn K (.ref D) "__init__" = some (some (.ref fI))) (hf : typeIn K (.ref fI) = some (.type "function"))
    (h : ∀ x dx s', S C ((x, InstI D dx) :: (dx, DictI (sk prog w) [] none) :: its) s' → codeAny (model prog w) (A.under (.builtin "type.__call__" ⟨.ref D :: rest, kw⟩)) (.call (.ref fI) ⟨.ref x :: rest, kw⟩) (InitBack x R) s') :
    codeAny (model prog w) A (.call (.ref D) ⟨rest, kw⟩) R s := by
  obtain ⟨hh, g, d, t, os⟩ := s
  refine make_core (makes_of (hB.k H) hm) (looks_findIn (hB.k H) hi) (fun self => bind_fn (hB.k H) self hf) (.inl rfl) (h _ hh.objs.size _ ?_)
  have H1 : S C ((hh.objs.size, DictI (sk prog w) [] none) :: its) ⟨hh.push emptyDict, g, d, t, os⟩ := H.push (o := emptyDict) ⟨[], ⟨#[], 0, ⟨rfl, rfl, rfl⟩, rfl, (fun e he => by simp at he), .nil, List.nodup_nil⟩, rfl, nofun⟩ rfl
  have H2 := H1.push (o := instObj D hh.objs.size) (P := InstI D hh.objs.size) (d := d) (t := t) rfl rfl
  have e : ((⟨hh.push emptyDict, g, d, t, os⟩ : Shared).heap).objs.size = hh.objs.size + 1 := by show (hh.push emptyDict).objs.size = _; rw [Heap.size_push]
  rw [e] at H2
  exact H2
theorem Rm.under_make {A : Around} {d u : Nat} (h : Rm A (d + 1) (u + 1)) (D : Addr) (rest : List Value) (kw : List (Str × Value)) : Rm (A.under (.builtin "type.__call__" ⟨.ref D :: rest, kw⟩)) d u :=
  ⟨h.hd, by have := h.dep; rw [depth_under_kw]; omega, by have := h.un; show A.units + 1 + u < _; omega⟩

/-- a list of tuples, taken apart -/
theorem nxT_list (l : Addr) (ts : List Addr) (tup : Nat → List Value) (hit : it ∉ C.tb) :
    NxT prog w C it ts.length (fun i us => us.map er = tup i) (ListIt l) (fun its => (l, ListI (ts.map .ref)) ∈ its ∧ ∀ i (h : i < ts.length), (ts[i], TupI (tup i)) ∈ its) := by
  refine ⟨fun A its s Q E Y elts k pos i hA H hn hi h => ?_, fun A its s Q E hA H hn h => ?_⟩
  · obtain ⟨o, ho, hc, hd⟩ := H.get (.head _)
    obtain ⟨ol, hol, hL⟩ := H.get (.tail _ hn.1)
    obtain ⟨us, n, hi', e⟩ := hL.at hol
    have hx := er_get e i
    rw [List.getElem?_map, List.getElem?_eq_getElem hi] at hx
    obtain ⟨v, hv, e2⟩ := map_er hx.symm
    have ev : v = .ref ts[i] := by cases v <;> simp [er] at e2; rw [e2]
    subst ev
    refine wpAny_pyNext_list_item ⟨o, ho, hc, hd⟩ (IsL.list hi') hv fun h' ⟨o', ho', hc', hd'⟩ hs => ?_
    have H' : S C ((it, ListIt l (i + 1)) :: its) (⟨h', s.gens, s.drawn, s.toks, s.os⟩ : Shared) := H.up .head hs ho' ⟨hc', hd'⟩
    obtain ⟨ot, hot, vt, nt, rfl, et⟩ := H'.get (.tail _ (hn.2 i hi))
    refine wpAny_letOwnedTupleGo_listiter ⟨_, ho', hc', hd'⟩ ?_
    exact h _ ts[i] vt.toList _ et rfl H' ⟨_, by simpa using hot, rfl, nt, by simp⟩
  · obtain ⟨o, ho, hc, hd⟩ := H.get (.head _)
    obtain ⟨ol, hol, hL⟩ := H.get (.tail _ hn.1)
    obtain ⟨us, n, hi', e⟩ := hL.at hol
    refine wpAny_pyNext_list_end hA ⟨o, ho, hc, hd⟩ (IsL.list hi') ?_ fun h' hx => h _ (H.extBut hx hit)
    have := len_er e
    rw [List.length_map] at this
    rw [← this]; simp
section
variable {α : Type} [DecidableEq α] {knd : PySem.KeyKind prog w α} {kvs : List (α × Value)} {d : Addr}
/-- the epoch of a dict is named -/
theorem S.named (H : S C ((d, DictI knd kvs ep) :: its) s) : ∃ n, S C ((d, DictI knd kvs (some n)) :: its) s := by
  obtain ⟨o, ho, us, hu, e, _⟩ := H.get (.head _)
  obtain ⟨es, n, h1, h2, h3, h4, h5⟩ := id hu
  refine ⟨n, H.keep, fun p hp => ?_, fun p hp => ?_, H.nd, H.tbs, H.gens, H.os, H.big, H.n1⟩
  · rcases List.mem_cons.mp hp with rfl | hp
    · exact ⟨o, ho, us, hu, e, fun m hm => ⟨es, by cases hm; exact h2⟩⟩
    · exact H.own p (.tail _ hp)
  · rcases List.mem_cons.mp hp with rfl | hp
    · exact H.new (d, DictI knd kvs ep) (.head _)
    · exact H.new p (.tail _ hp)
theorem S.unnamed (H : S C ((d, DictI knd kvs ep) :: its) s) : S C ((d, DictI knd kvs none) :: its) s := by
  refine ⟨H.keep, fun p hp => ?_, fun p hp => ?_, H.nd, H.tbs, H.gens, H.os, H.big, H.n1⟩
  · rcases List.mem_cons.mp hp with rfl | hp
    · obtain ⟨o, ho, us, hu, e, _⟩ := H.get (.head _)
      exact ⟨o, ho, us, hu, e, nofun⟩
    · exact H.own p (.tail _ hp)
  · rcases List.mem_cons.mp hp with rfl | hp
    · exact H.new (d, DictI knd kvs ep) (.head _)
    · exact H.new p (.tail _ hp)
theorem S.extTo {P P' : Obj → Prop} (H : S C ((a, P) :: its) s) {h' : Heap} (hx : Heap.ExtBut a s.heap h') (ht : a ∉ C.tb) {o : Obj} (ho : h'.get? a = some o) (hP : P' o) {d : Drawn} {t : Nat} : S C ((a, P') :: its) ⟨h', s.gens, d, t, s.os⟩ := by
  have H' := H.extBut hx ht (d := d) (t := t)
  have nd := H.nd
  refine ⟨H'.keep, fun p hp => ?_, fun p hp => ?_, nd, H'.tbs, H'.gens, H'.os, H.big, H.n1⟩
  · rcases List.mem_cons.mp hp with rfl | hp
    · exact ⟨o, ho, hP⟩
    · exact H'.own p hp
  · rcases List.mem_cons.mp hp with rfl | hp
    · exact H.new (a, P) (.head _)
    · exact H.new p (.tail _ hp)
noncomputable def ItemIt (d : Addr) (n ep : Nat) (i : Nat) (o : Obj) : Prop := ∃ ok ov, o = { cls := .type "dict_itemiterator", data := .fields #[.none, .bool false, .ref d, .int i 0, .int n 0, .int ep 0, ok, ov] }
/-- d.items(), taken apart -/
theorem nxT_items (n : Nat) (hit : it ∉ C.tb) :
    NxT prog w C it kvs.length (fun i us => ∃ k X key v, kvs[i]? = some (k, X) ∧ us = [key, v] ∧ knd.is k key = true ∧ er v = X) (ItemIt d kvs.length n) (fun its => (d, DictI knd kvs (some n)) ∈ its) := by
  refine ⟨fun A its s Q E Y elts k pos i hA H hn hi h => ?_, fun A its s Q E hA H hn h => ?_⟩
  · obtain ⟨o, ho, ok, ov, rfl⟩ := H.get (.head _)
    obtain ⟨od, hod, us, ⟨es, n', h1, h2, h3, h4, h5⟩, e, hn'⟩ := H.get (.tail _ hn)
    obtain ⟨es', he⟩ := hn' n rfl
    rw [h2] at he; cases he
    have hl : us.length = kvs.length := by rw [← e]; simp
    have hat : Heap.DictAt knd s.heap d us n := ⟨od, es, hod, h1, h2, h3, h4, h5⟩
    have hi' : i < us.length := by omega
    have ho' : IsItemIter s.heap it d i us.length n ok ov := by rw [hl]; exact ho
    refine wpAny_pyNext_items_item ho' hat (List.getElem?_eq_getElem hi') fun key h' hk hI ht hsz hkp => ?_
    refine wpAny_letOwnedTupleGo_items hI fun h'' hI' hs => ?_
    have hne : s.heap.objs.size ≠ it := Nat.ne_of_gt (H.lt (.head _))
    have H' : S C ((it, ItemIt d kvs.length n (i + 1)) :: its) (⟨h'', s.gens, s.drawn, s.toks, s.os⟩ : Shared) :=
      H.extTo (fun b o hb e => (hs.2 b hb).trans (hkp b o hb e)) hit hI' (by rw [← hl]; exact ⟨_, _, rfl⟩)
    refine h _ s.heap.objs.size [key, (us[i]'hi').2] _ ⟨(us[i]'hi').1, er (us[i]'hi').2, key, (us[i]'hi').2, ?_, rfl, hk, rfl⟩ rfl H' ⟨_, (hs.2 _ hne).trans ht, rfl, 0, rfl⟩
    rw [← e, List.getElem?_map, List.getElem?_eq_getElem hi']; rfl
  · obtain ⟨o, ho, ok, ov, rfl⟩ := H.get (.head _)
    obtain ⟨od, hod, us, ⟨es, n', h1, h2, h3, h4, h5⟩, e, hn'⟩ := H.get (.tail _ hn)
    obtain ⟨es', he⟩ := hn' n rfl
    rw [h2] at he; cases he
    have hl : us.length = kvs.length := by rw [← e]; simp
    have hat : Heap.DictAt knd s.heap d us n := ⟨od, es, hod, h1, h2, h3, h4, h5⟩
    have ho' : IsItemIter s.heap it d kvs.length us.length n ok ov := by rw [hl]; exact ho
    exact wpAny_pyNext_items_end hA ho' hat (by rw [← hl]; simp) fun h' hx => h _ (H.extBut hx hit)
theorem it_items {v d : Addr} {n : Nat} {Q : Value → Shared → Prop} (H : S C its s) (hv : (v, ViewI "dict_items" d) ∈ its) (hd : (d, DictI knd kvs (some n)) ∈ its) (h : ∀ it s', it ∉ C.tb → S C ((it, ItemIt d kvs.length n 0) :: its) s' → Q (.ref it) s') :
    wpAny (model prog w) A (pyIter (.ref v)) Q E s := by
  obtain ⟨o, ho, rfl⟩ := H.get hv
  obtain ⟨od, hod, us, ⟨es, n', h1, h2, h3, h4, h5⟩, e, hn'⟩ := H.get hd
  obtain ⟨es', he⟩ := hn' n rfl
  rw [h2] at he; cases he
  have hl : us.length = kvs.length := by rw [← e]; simp
  refine wpAny_pyIter_items ⟨_, ho, rfl, rfl⟩ (knd := knd) (kvs := us) ⟨od, es, hod, h1, h2, h3, h4, h5⟩ (h _ _ H.fresh_tb (H.push ?_ rfl))
  rw [hl]; exact ⟨_, _, rfl⟩
theorem r_items {Q : Value → Shared → Prop} (H : S C its s) (hd : (d, DictI knd kvs ep) ∈ its) (hS : (d == sysModules) = false) (h : ∀ v s', S C ((v, ViewI "dict_items" d) :: its) s' → Q (.ref v) s') :
    wpAny (model prog w) A (call (.builtin "dict.items") [.ref d]) Q E s := by
  obtain ⟨o, ho, hD⟩ := H.get hd
  obtain ⟨us, h1, h2⟩ := hD.at ho
  exact call_meetsIn PySem.F.slot_dict_items h1.typeIs PySem.F.entry_dict_items (PySem.F.args_dict_items_1 _) (meets_dict_items knd d hS) ⟨⟨us, h1⟩, h _ _ (H.push (o := { cls := .type "dict_items", data := .fields #[.ref d] }) (P := ViewI "dict_items" d) rfl rfl)⟩

end
end
end Mc
namespace Mc
section
variable {prog : Program} {w : World} {A : Around} {E : Value → Shared → Prop} {C : Cx} {its its' : List Item} {s : Shared} {Q : Value → Shared → Prop} {x : Str} {t : Tok} {i : Int}
theorem r_ff_str (H : S C its s) (hx : x.length ≤ 1000000) (h : ∀ t s', S C its s' → Q (.str x t) s') : wpAny (model prog w) A (formatField (.str x t) Str.empty) Q E s :=
  wpAny_formatField_str (h _ _ H) (h _ _ H.tk) (by rw [sizeLine_eq]; omega)
theorem r_ff_int (H : S C its s) (hi : -1000000000 ≤ i ∧ i ≤ 1000000000) (h : ∀ t s', S C its s' → Q (.str (Str.ofString (toString i)) t) s') : wpAny (model prog w) A (formatField (.int i t) Str.empty) Q E s := by
  refine wpAny_formatField_int ?_ (h _ _ H.tk)
  have : i.natAbs < 2 ^ 30 := by have : (2:Nat) ^ 30 = 1073741824 := by decide
                                 omega
  by_cases h0 : i.natAbs = 0
  · rw [h0]; decide
  · have := (Nat.log2_lt h0).mpr this
    omega
theorem sizeLine_ge : 1000000 ≤ sizeLine := by rw [sizeLine_eq]; decide
end
end Mc

namespace Mc
section
variable {prog : Program} {w : World} {A : Around} {E : Value → Shared → Prop} {K : Frag} {gl : List (Str × Value)} {C : Cx} {its its' : List Item} {s : Shared} {L a it : Addr} {loc : List (Str × Option Value)} {vs : List Value}
  {α : Type} [DecidableEq α] {knd : PySem.KeyKind prog w α} {kvs : List (α × Value)} {ep : Option Nat}
theorem r_truthy_list {Q : Bool → Shared → Prop} (H : S C its s) (hm : (a, ListI vs) ∈ its) (hz : vs.length ≤ 1048576) (h : ∀ s', S C its s' → Q (!vs.isEmpty) s') :
    wpAny (model prog w) A (truthy (.ref a)) Q E s := by
  obtain ⟨o, ho, hL⟩ := H.get hm
  obtain ⟨us, n, hi, e⟩ := hL.at ho
  have e' := len_er e
  refine wpAny_truthy_list (IsL.list hi) (by rw [e']; omega) ?_
  have : us.isEmpty = vs.isEmpty := by
    rw [← e]
    cases us with | mk l => cases l <;> rfl
  rw [this]
  exact h _ H.tk
theorem r_truthy_dict {Q : Bool → Shared → Prop} (H : S C its s) (hm : (a, DictI knd kvs ep) ∈ its) (ha : (a == sysModules) = false) (hz : kvs.length ≤ 1048576) (h : ∀ s', S C its s' → Q (!kvs.isEmpty) s') :
    wpAny (model prog w) A (truthy (.ref a)) Q E s := by
  obtain ⟨o, ho, hD⟩ := H.get hm
  obtain ⟨us, h1, h2⟩ := hD.at ho
  subst h2
  rw [List.length_map] at hz
  refine wpAny_truthy_dict ha h1 (by omega) ?_
  have : us.isEmpty = (us.map ek).isEmpty := by cases us <;> rfl
  rw [this]
  exact h _ H.tk
end
end Mc

namespace Mc
section
variable {prog : Program} {w : World} {A : Around} {E : Value → Shared → Prop} {K : Frag} {gl : List (Str × Value)} {C : Cx} {its its' : List Item} {s : Shared} {L a it : Addr} {loc : List (Str × Option Value)} {vs : List Value} {X Y : Value}
  {α : Type} [DecidableEq α] {knd : PySem.KeyKind prog w α} {kvs : List (α × Value)} {ep : Option Nat}
theorem S.tkTo {s' : Shared} (H : S C its s) (h1 : s'.heap = s.heap) (h2 : s'.gens = s.gens) (h3 : s'.os = s.os) : S C its s' := by
  obtain ⟨hp, g, d, t, o⟩ := s'
  cases h1; cases h2; cases h3
  exact H.tk
theorem S.ext0 (H : S C its s) {h' : Heap} (hx : Heap.ExtBut s.heap.objs.size s.heap h') {d : Drawn} {t : Nat} : S C its ⟨h', s.gens, d, t, s.os⟩ := by
  refine ⟨fun b o e q => hx b o (fun z => ?_) (H.keep b o e q), fun q hq => ?_, H.new, H.nd, fun b hb => ?_, H.gens, H.os, H.big, H.n1⟩
  · subst z
    exact absurd (Heap.lt_size (H.keep _ _ e q)) (Nat.lt_irrefl _)
  · obtain ⟨o, e, y⟩ := H.own q hq
    exact ⟨o, hx _ _ (Nat.ne_of_lt (Heap.lt_size e)) e, y⟩
  · obtain ⟨o, e⟩ := H.tbs b hb
    exact ⟨o, hx _ _ (Nat.ne_of_lt (Heap.lt_size e)) e⟩
theorem r_unpackItems {n : Nat} {Q : List Value → Shared → Prop} (H : S C its s) (hA : A.handled = none) (hm : (a, TupI vs) ∈ its) (hn : vs.length = n) (h : ∀ us s', us.map er = vs → S C its s' → Q us s') :
    wpAny (model prog w) A (unpackItems (.ref a) n none) Q E s := by
  obtain ⟨o, ho, us, m, rfl, e⟩ := H.get hm
  have hs : us.size = n := by rw [← hn, ← e]; simp
  subst hs
  refine wpAny_unpackItems_tuple hA ⟨_, ho, rfl, _, rfl⟩ fun h' hx => h _ _ e (H.ext0 hx)
theorem r_unpackItems2 {n : Nat} {Q : List Value → Shared → Prop} (H : S C its s) (hA : A.handled = none) (hm : (a, TupI [X, Y]) ∈ its) (hn : 2 = n) (h : ∀ s', S C its s' → Ret X (fun u s' => Ret Y (fun v s' => Q [u, v] s') s') s') :
    wpAny (model prog w) A (unpackItems (.ref a) n none) Q E s := by
  refine r_unpackItems H hA hm hn fun us s' e H' => ?_
  obtain ⟨u, r, rfl, e1, e2⟩ := List.map_eq_cons_iff.mp e
  obtain ⟨v, q, rfl, e3, e4⟩ := List.map_eq_cons_iff.mp e2
  obtain rfl := List.map_eq_nil_iff.mp e4
  exact Ret.use (Ret.use (h s' H') e1) e3
/-- the end of a while loop's turn -/
noncomputable def WTurn (C : Cx) (n : Nat) (Inv : Nat → List Item → Prop) (R : Result → Shared → Prop) (f : Flow) (s : Shared) : Prop := match f with
  | .next => ∃ m l', m < n ∧ Inv m l' ∧ S C l' s
  | .cont => ∃ m l', m < n ∧ Inv m l' ∧ S C l' s
  | .brk => R (.ok .next) s
  | .ret v => R (.ok (.ret v)) s
theorem WTurn.next {n m : Nat} {Inv : Nat → List Item → Prop} {R : Result → Shared → Prop} {l : List Item} (h1 : m < n) (h2 : Inv m l) (h3 : S C l s) : WTurn C n Inv R .next s := ⟨m, l, h1, h2, h3⟩
/-- a while loop over the ledger -/
theorem while_nx {R : Result → Shared → Prop} {env : Env} {test : PySem.Expr} {body orelse : List Stmt} (Inv : Nat → List Item → Prop) (n : Nat) (h0 : Inv n its) (H : S C its s)
    (turn : ∀ n l s₁ (E' : Value → Shared → Prop), Inv n l → S C l s₁ → wpAny (model prog w) A (PySem.isTrue test env (eval test env))
      (fun b s₂ => if b = true then wpAny (model prog w) A (execs body env) (WTurn C n Inv R) E' s₂
        else wpAny (model prog w) A (execs orelse env) (fun f s₃ => R (.ok f) s₃) E' s₂) E' s₁) :
    codeAny (model prog w) A (.whileLoop test body orelse env) R s := by
  refine codeAny_whileLoop (fun n s => ∃ l, Inv n l ∧ S C l s) (fun n s₁ ⟨l, hI, Hs⟩ => ?_) n ⟨its, h0, H⟩
  refine wpAny_mono (turn n l s₁ _ hI Hs) (fun b s₂ h₂ => ?_) fun _ _ e => e
  split
  · rename_i hb
    rw [if_pos hb] at h₂
    refine wpAny_mono h₂ (fun f s₃ h₃ => ?_) fun _ _ e => e
    cases f with
    | next => obtain ⟨m, l', a, b, c⟩ := h₃; exact ⟨m, a, l', b, c⟩
    | cont => obtain ⟨m, l', a, b, c⟩ := h₃; exact ⟨m, a, l', b, c⟩
    | brk => exact h₃
    | ret v => exact h₃
  · rename_i hb
    rw [if_neg hb] at h₂
    exact h₂
end
end Mc

namespace Mc
section
variable {prog : Program} {w : World} {A : Around} {E : Value → Shared → Prop} {K : Frag} {gl : List (Str × Value)} {C : Cx} {its its' : List Item} {s : Shared} {L a it : Addr} {loc : List (Str × Option Value)} {vs : List Value} {X Y v : Value} {x D dx : Addr} {attrs attrs' : List (Str × Value)} {ep : Option Nat} {name : Str}
/-- a class: names that only instances have; methods; properties -/
structure ClsOk (K : Frag) (D : Addr) (own : List Str) (ms : List (Str × Addr)) (ps : List (Str × Addr × Addr)) : Prop where
  pg : plainGet K D "" = true
  hd : hasDictIn K D = true
  sa : findIn K (.ref D) "__setattr__" = some (some (.builtin "object.__setattr__"))
  po : plainOver K D = true
  own : ∀ n ∈ own, findIn K (.ref D) n = some none ∧ takerIn K D n = some none
  ms : ∀ p ∈ ms, findIn K (.ref D) p.1 = some (some (.ref p.2)) ∧ isFn K (.ref p.2) = true
  ps : ∀ p ∈ ps, findIn K (.ref D) p.1 = some (some (.ref p.2.1)) ∧ specialIn K (.ref p.2.1) "__get__" = some (some (.builtin "property.__get__")) ∧ takesIn K (.ref p.2.1) = some true ∧ ∃ rest, recIn K p.2.1 "property" = some (.ref p.2.2 :: rest)
variable {own : List Str} {ms : List (Str × Addr)} {ps : List (Str × Addr × Addr)}
theorem rc_attr {expr : Bool} {Q : Value → Shared → Prop} (H : S C its s) (hB : Bs prog w K gl C) (hm : (x, InstI D dx) ∈ its) (hC : ClsOk K D own ms ps) (hd : (dx, DictI (sk prog w) attrs ep) ∈ its) (hn : name ∈ own) (hv : (name, X) ∈ attrs)
    (hx : handedIn X = true) (h : ∀ s', S C its s' → Ret X Q s') : wpAny (model prog w) A (getAttr (.ref x) name expr) Q E s :=
  r_attr (attr := none) H hB hm hd hv hC.pg hC.hd (hC.own _ hn).1 rfl hx h
theorem rc_prop {expr : Bool} {Q : Value → Shared → Prop} {p fget : Addr} (H : S C its s) (hB : Bs prog w K gl C) (hm : (x, InstI D dx) ∈ its) (hC : ClsOk K D own ms ps) (hd : (dx, DictI (sk prog w) attrs ep) ∈ its) (hp : (name, p, fget) ∈ ps)
    (h : ∀ s' tk, S C its s' → codeAny (model prog w) A.in1 (.call (.ref fget) ⟨[.ref x], []⟩) (fun r s' => match r with | .ok (.ret v) => wpAny (model prog w) A (handedOut v) Q E s' | .ok _ => False | .error e => wpAny (model prog w) A (noteIf true (.ref x) (.str name tk) e) (fun _ s'' => E e s'') E s') s') :
    wpAny (model prog w) A (getAttr (.ref x) name expr) Q E s := by
  obtain ⟨h1, h2, h3, rest, h4⟩ := hC.ps _ hp
  exact r_prop H hB hm hd hC.pg hC.hd h1 h2 h3 h4 h
theorem rc_meth {pl : Sem Bool} {Q : Value × List Value → Shared → Prop} {f : Addr} (H : S C its s) (hB : Bs prog w K gl C) (hm : (x, InstI D dx) ∈ its) (hC : ClsOk K D own ms ps) (hd : (dx, DictI (sk prog w) attrs ep) ∈ its)
    (hp : (name, f) ∈ ms) (hno : (attrs.map (·.1)).contains name = false) (h : Q (.ref f, [.ref x]) s) :
    wpAny (model prog w) A (getMethod (.ref x) name pl) Q E s :=
  r_meth H hB hm hd hC.pg (hC.ms _ hp).1 (hC.ms _ hp).2 hno h
theorem rc_meth_own {pl : Sem Bool} {Q : Value × List Value → Shared → Prop} (H : S C its s) (hB : Bs prog w K gl C) (hm : (x, InstI D dx) ∈ its) (hC : ClsOk K D own ms ps) (hd : (dx, DictI (sk prog w) attrs ep) ∈ its) (hn : name ∈ own)
    (hv : (name, X) ∈ attrs) (hx : handedIn X = true) (h : ∀ s', S C its s' → Ret X (fun v => Q (v, [])) s') :
    wpAny (model prog w) A (getMethod (.ref x) name pl) Q E s := r_meth_own H hB hm hd hv hC.pg hC.hd (hC.own _ hn).1 hx h
theorem rc_setattr_m {Q : Unit → Shared → Prop} (H : S C its s) (hB : Bs prog w K gl C) (hm : (x, InstI D dx) ∈ its) (hC : ClsOk K D own ms ps) (hn : name ∈ own) (hv : er v = X) (hm' : (dx, DictI (sk prog w) attrs ep) ∈ its) (hd : Du name X attrs attrs') (hU : Up dx (DictI (sk prog w) attrs ep) (DictI (sk prog w) attrs' none) its its')
    (hz : attrs.length ≤ 900) (h : ∀ s', S C its' s' → Q () s') : wpAny (model prog w) A (setAttr (.ref x) name v) Q E s :=
  r_setattr_m H hB hm hv hm' hd hU hC.sa hC.po (hC.own _ hn).2 hC.hd hz h
theorem rc_setattr_new {Q : Unit → Shared → Prop} (H : S C its s) (hB : Bs prog w K gl C) (hm : (x, InstI D dx) ∈ its) (hC : ClsOk K D own ms ps) (hn : name ∈ own) (hv : er v = X) (hU : Up dx (DictI (sk prog w) attrs ep) (DictI (sk prog w) (attrs ++ [(name, X)]) none) its its') (hno : (attrs.map (·.1)).contains name = false)
    (hz : attrs.length ≤ 900) (h : ∀ s', S C its' s' → Q () s') : wpAny (model prog w) A (setAttr (.ref x) name v) Q E s :=
  r_setattr_new H hB hm hv hno hU hC.sa hC.po (hC.own _ hn).2 hC.hd hz h
theorem Up.appL {a : Addr} {P P' : Obj → Prop} {r : List Item} {l l' : List Item} (h : Up a P P' l l') : Up a P P' (l ++ r) (l' ++ r) := by
  induction h with
  | head => exact .head
  | tail _ ih => exact .tail ih
theorem Up.appR {a : Addr} {P P' : Obj → Prop} {r r' : List Item} (h : Up a P P' r r') {l : List Item} : Up a P P' (l ++ r) (l ++ r') := by
  induction l with
  | nil => exact h
  | cons _ _ ih => exact .tail ih
theorem wp_if_pos {c : Prop} [Decidable c] {p q : Prop} (h : c) (hp : p) : if c then p else q := by rw [if_pos h]; exact hp
theorem wp_if_neg {c : Prop} [Decidable c] {p q : Prop} (h : ¬ c) (hq : q) : if c then p else q := by rw [if_neg h]; exact hq
/-- a call of a function whose names are no cells; its surroundings are hidden -/
theorem call_fnL {fd : FuncData} {o : Obj} {body : List Stmt} {args : Args} {binds : List (Str × Value)} {loc : List (Str × Option Value)} {R : Result → Shared → Prop} {f : Addr}
    (H : S C its s) (hB : Bs prog w K gl C) (ho : s.heap.get? f = some o) (hd : o.data = .func fd) (hcd : s.heap.CodeRec fd.code fd.qualname) (hbody : fd.body = .stmts body) {dd uu : Nat} (hA : Rm A (dd + 1) (uu + 3))
    (hbind : BindsTo s fd args binds) (hcell : (fd.scope.names.all fun y => y.2 != .cell) = true) (hloc : (binds.all fun y => decide (fd.scope.names.lookup y.1 = some .local)) = true)
    (hnd : nodupB (loc.map (·.1)) = true) (hl : loc = loc.map fun p => (p.1, (binds.reverse.lookup p.1).map er))
    (h : ∀ (L : Addr) (s' : Shared) (A' : Around) (E' : Value → Shared → Prop), Rm A' dd uu → S C ((L, NsI loc) :: its) s' → let env : Env := callEnv fd L f; wpAny (model prog w) A' (execs body env) (fun fl s'' => R (.ok (.ret (match fl with | .ret v => v | _ => .none))) s'') E' s')
    (hco : fd.scope.isCoroutine = false := by rfl) (hgen : fd.scope.isGenerator = false := by rfl) (hk : fd.scope.kind = .function := by rfl) :
    codeAny (model prog w) A (.call (.ref f) args) R s :=
  call_fn H hB ho hd hcd hbody hA hbind hcell hloc hnd hl (fun L s' hA' H' => h L s' _ _ hA' H') hco hgen hk
end
end Mc

namespace Mc
theorem slot_fn_ga : Slot "function" "__getattribute__" "object.__getattribute__" :=
  .of (owner := "object") (n := "__getattribute__") (by rw [typeLookup_type, builtinLookup_eq_fast]; kernel_rfl) (by decide +kernel) (by decide +kernel) (by decide +kernel)
    (by first | exact .inl (by decide +kernel) | exact .inr (by decide +kernel)) (by rw [isSubtype_type]; kernel_rfl)
theorem lk_fn_class : typeLookup (.type "function") "__class__" = pure (some (.builtin "object.__class__")) := by rw [typeLookup_type, builtinLookup_eq_fast]; kernel_rfl
theorem sub_fn_class_owner : isSubtype (.type "function") (.type (".".intercalate ("object.__class__".cutAt '.').dropLast)) = pure true := by
  rw [F.owner_object_class, isSubtype_type]; kernel_rfl
section
variable {prog : Program} {w : World} {A : Around} {E : Value → Shared → Prop} {h : Heap} {g : Array GenState} {d : Drawn} {t : Nat} {os : OsState} {a : Addr} {o : Obj}
theorem class_get_fn {R : Result → Shared → Prop} (hx : h.get? a = some o) (hc : o.cls = .type "function") (hq : R (.ok (.ret (.type "function"))) ⟨h, g, d, t, os⟩) :
    codeAny (model prog w) A (.call (.builtin "getset_descriptor.__get__") ⟨[.builtin "object.__class__", .ref a, .type "function"], []⟩) R ⟨h, g, d, t, os⟩ := by
  have hT : (⟨h, g, d, t, os⟩ : Shared).TypeIs (.ref a) "function" := ⟨_, hx, hc⟩
  have hT5 : (⟨h, g, d, t, os⟩ : Shared).TypeIs (.builtin "object.__class__") "getset_descriptor" := F.typeOf_object_class
  have f8 := sub_fn_class_owner
  refine codeAny_call_builtin F.slot_gs_get.plain F.entry_gs_get (F.slot_gs_get.check _ _ _ _ _ _ _ _ hT5 (F.args_gs_get _ _ _) ?_)
  repeat (any_goals (first | assumption | wp_step))
  refine ⟨Code.quiet_builtin _ (by decide +kernel), codeAny_builtin F.entry_object_class ?_⟩
  repeat (any_goals (first | assumption | wp_step))
theorem class_entry_fn {tk : Tok} {Q : Fin → Shared → Prop} (hx : h.get? a = some o) (hc : o.cls = .type "function") (hq : Q (.done (.ret (.type "function"))) ⟨h, g, d, t, os⟩) :
    wpAny (model prog w) A (Builtin.«object.__getattribute__» ⟨[.ref a, .str "__class__" tk], []⟩) Q E ⟨h, g, d, t, os⟩ := by
  have hT : (⟨h, g, d, t, os⟩ : Shared).TypeIs (.ref a) "function" := ⟨_, hx, hc⟩
  have hT5 : (⟨h, g, d, t, os⟩ : Shared).TypeIs (.builtin "object.__class__") "getset_descriptor" := F.typeOf_object_class
  have f4 := lk_fn_class
  have f5 := F.typeOf_object_class
  have f6 := F.slot_gs_get.lookup
  have f7 := F.slot_gs_set.lookup
  repeat (any_goals (first | assumption | wp_step))
  refine class_get_fn hx hc ?_
  repeat (any_goals (first | assumption | wp_step))
theorem class_call_fn {tk : Tok} {R : Result → Shared → Prop} (hx : h.get? a = some o) (hc : o.cls = .type "function") (hq : R (.ok (.ret (.type "function"))) ⟨h, g, d, t, os⟩) :
    codeAny (model prog w) A (.call (.builtin "object.__getattribute__") ⟨[.ref a, .str "__class__" tk], []⟩) R ⟨h, g, d, t, os⟩ :=
  codeAny_call_builtin slot_fn_ga.plain F.entry_object_getattribute (slot_fn_ga.check _ _ _ _ _ _ _ _ (show (⟨h, g, d, t, os⟩ : Shared).TypeIs (.ref a) "function" from ⟨_, hx, hc⟩) (F.args_object_getattribute_2 _ _) (class_entry_fn hx hc hq))
theorem class_by_fn {tk : Tok} {Q : Value → Shared → Prop} (hx : h.get? a = some o) (hc : o.cls = .type "function") (hq : Q (.type "function") ⟨h, g, d, t, os⟩) : wpAny (model prog w) A (getAttrBy (.ref a) (.str "__class__" tk) false) Q E ⟨h, g, d, t, os⟩ := by
  have hT : (⟨h, g, d, t, os⟩ : Shared).TypeIs (.ref a) "function" := ⟨_, hx, hc⟩
  have f2 := slot_fn_ga.lookup
  have f3 := slot_fn_ga.bind (.ref a)
  repeat (any_goals (first | assumption | wp_step))
  refine class_call_fn hx hc ?_
  repeat (any_goals (first | assumption | wp_step))
theorem class_attr_fn {Q : Option Value → Shared → Prop} (hx : h.get? a = some o) (hc : o.cls = .type "function") (hq : Q (some (.type "function")) ⟨h, g, d, t + 1, os⟩) : wpAny (model prog w) A (getAttr? (.ref a) "__class__") Q E ⟨h, g, d, t, os⟩ := by
  unfold getAttr? getAttrBy?
  repeat (any_goals (first | assumption | with_reducible apply class_by_fn hx hc | wp_step))
theorem kitx_fn {K : Frag} {a : Addr} : KitX K (.ref a) (.type "function") (KitAt a "function") := kitx_of kitAt_ty (fun {_ _ _ _ _ s} p k => by obtain ⟨h, g, d, t, os⟩ := s; obtain ⟨o, h1, h2⟩ := p; exact class_attr_fn h1 h2 k)
theorem truthy_fn {M : Model} {s : Shared} {Q : Bool → Shared → Prop} (hx : s.heap.get? a = some o) (hc : o.cls = .type "function") (hq : Q true s) : wpAny M A (truthy (.ref a)) Q E s := by
  have f1 : typeLookup (.type "function") "__bool__" = pure none := by rw [typeLookup_type, builtinLookup_eq_fast]; kernel_rfl
  have f2 : typeLookup (.type "function") "__len__" = pure none := by rw [typeLookup_type, builtinLookup_eq_fast]; kernel_rfl
  have hT : Looks M s.heap (typeOf (.ref a)) (.type "function") := kitAt_ty (T := "function") M s.heap ⟨o, hx, hc⟩
  unfold truthy
  refine wpAny_bind (m := callSpecial? (.ref a) (Str.ofString "__bool__")) (wpAny_bind (wpAny_bind (hT.here ((Looks.of_pure f1).here (wpAny_pure ?_)))))
  refine wpAny_bind (wpAny_bind (hT.here ((Looks.of_pure f2).here ?_)))
  exact wpAny_pure hq
end
end Mc
namespace Mc
theorem slot_fn_eq : Slot "function" (cmpInfo .Eq).2.1 "object.__eq__" :=
  .of (owner := "object") (n := "__eq__") (by rw [typeLookup_type, builtinLookup_eq_fast]; kernel_rfl) (by decide +kernel) (by decide +kernel) (by decide +kernel)
    (by first | exact .inl (by decide +kernel) | exact .inr (by decide +kernel)) (by rw [isSubtype_type]; kernel_rfl)
theorem obj_eq_fn_str (a : Addr) (b : Str) (u : Tok) :
    Gives (Builtin.«object.__eq__» ⟨[.ref a, .str b u], []⟩) (.val (Value.notImplemented)) :=
  .of_wp fun M A E s Q h => by obtain ⟨hp, g, d, tk, os⟩ := s; wp_walk; exact ⟨_, rfl, h⟩
section
variable {prog : Program} {w : World} {A : Around} {E : Value → Shared → Prop} {s : Shared} {a : Addr} {o : Obj} {x : Str} {tk : Tok}
theorem str_eq_fn {Q : Value → Shared → Prop} (hx : s.heap.get? a = some o) (hc : o.cls = .type "function") {fd : FuncData} (hd : o.data = .func fd) (hq : Q .notImplemented s) :
    wpAny (model prog w) A (call (.builtin "str.__eq__") [.str x tk, .ref a]) Q E s := by
  obtain ⟨h, g, d, t, os⟩ := s
  have hT : (⟨h, g, d, t, os⟩ : Shared).TypeIs (.ref a) "function" := ⟨_, hx, hc⟩
  refine wpAny_call_entry F.slot_str_eq_refl (typeIs_str _ x tk) F.entry_str_eq ?_ (F.args_str_eq_2 _ _)
  repeat (any_goals (first | assumption | wp_step))
  rw [hd]
  repeat (any_goals (first | assumption | wp_step))
  exact ⟨_, rfl, hq⟩
theorem eq_fn_str {Q : Value → Shared → Prop} (hu : A.units < cLine) (hx : s.heap.get? a = some o) (hc : o.cls = .type "function") {fd : FuncData} (hd : o.data = .func fd) (hq : Q (.bool false) s) :
    wpAny (model prog w) A (compareOp .Eq (.ref a) (.str x tk)) Q E s := by
  have hT : s.TypeIs (.ref a) "function" := ⟨_, hx, hc⟩
  have hS : s.TypeIs (.str x tk) "str" := typeIs_str _ x tk
  have hsub : isSubtype (.type "str") (.type "function") = pure false := by rw [isSubtype_type]; kernel_rfl
  have h1 := slot_fn_eq
  have h2 := F.slot_str_eq_refl
  show wpAny _ A (richCompare .Eq _ _) Q E s
  rcases hi : cmpInfo CmpOp.Eq with ⟨sym, f, r⟩
  rw [hi] at h1 h2
  simp only [richCompare, hi, hT.oneThing_none]
  refine wpAny_holding ?_
  refine wpAny_bind (wpAny_cRoomFor hu ?_)
  refine wpAny_bind (wpAny_typeOf hT (wpAny_bind (wpAny_typeOf hS ?_)))
  simp only [show (Value.type "function" != Value.type "str") = true by decide, if_true]
  refine wpAny_bind (wpAny_of_eq hsub ?_)
  simp only [Bool.false_eq_true, if_false, Bool.not_false, if_true]
  refine wpAny_bind (m := tryCompare _ _ _) (wpAny_tryCompare_declines hT h1 (call_gives h1 hT F.entry_object_eq (F.args_object_eq_2 _ _) (obj_eq_fn_str a x tk) ⟨rfl, ?_⟩))
  refine wpAny_bind (m := tryCompare _ _ _) (wpAny_tryCompare_declines hS h2 (str_eq_fn hx hc hd ⟨rfl, ?_⟩))
  refine wpAny_bind (wpAny_rule (wpAny_bind (wpAny_of_eq (by rfl) (wpAny_pure hq))))
end
/-- a function made in the call -/
noncomputable def FnI (fd : FuncData) (o : Obj) : Prop := o = { cls := .type "function", data := .func fd }
/-- isinstance: what is asked stands for a type -/
inductive KitV (prog : Program) (w : World) (its : List Item) : Value → String → Prop
  | int {i : Int} {t : Tok} : KitV prog w its (.int i t) "int"
  | str {i : Str} {t : Tok} : KitV prog w its (.str i t) "str"
  | none : KitV prog w its .none "NoneType"
  | list {a : Addr} {vs : List Value} : (a, ListI vs) ∈ its → KitV prog w its (.ref a) "list"
  | tup {a : Addr} {vs : List Value} : (a, TupI vs) ∈ its → KitV prog w its (.ref a) "tuple"
  | dict {α : Type} [DecidableEq α] {knd : PySem.KeyKind prog w α} {kvs : List (α × Value)} {ep : Option Nat} {a : Addr} : (a, DictI knd kvs ep) ∈ its → KitV prog w its (.ref a) "dict"
  | fn {a : Addr} {fd : FuncData} : (a, FnI fd) ∈ its → KitV prog w its (.ref a) "function"
section
variable {prog : Program} {w : World} {A : Around} {E : Value → Shared → Prop} {K : Frag} {gl : List (Str × Value)} {C : Cx} {its its' : List Item} {s : Shared} {a : Addr} {fd : FuncData} {vs : List Value} {X v : Value} {x : Str} {tk : Tok}
theorem r_truthy_fn {Q : Bool → Shared → Prop} (H : S C its s) (hm : (a, FnI fd) ∈ its) (h : Q true s) : wpAny (model prog w) A (truthy (.ref a)) Q E s := by
  obtain ⟨o, ho, rfl⟩ := H.get hm
  exact truthy_fn ho rfl h
theorem r_eq_fn_str {Q : Value → Shared → Prop} (H : S C its s) (hu : A.units < cLine) (hm : (a, FnI fd) ∈ its) (h : Q (.bool false) s) : wpAny (model prog w) A (compareOp .Eq (.ref a) (.str x tk)) Q E s := by
  obtain ⟨o, ho, rfl⟩ := H.get hm
  exact eq_fn_str hu ho rfl rfl h
theorem ListI.kit {h : Heap} {o : Obj} (hL : ListI vs o) (ho : h.get? a = some o) : KitAt a "list" h := by obtain ⟨us, n, rfl, _⟩ := hL; exact ⟨_, ho, rfl⟩
theorem TupI.kit {h : Heap} {o : Obj} (hL : TupI vs o) (ho : h.get? a = some o) : KitAt a "tuple" h := by obtain ⟨us, n, rfl, _⟩ := hL; exact ⟨_, ho, rfl⟩
theorem DictI.kit {α : Type} [DecidableEq α] {knd : PySem.KeyKind prog w α} {kvs : List (α × Value)} {ep : Option Nat} {h : Heap} {o : Obj} (hD : DictI knd kvs ep o) (ho : h.get? a = some o) : KitAt a "dict" h := by
  obtain ⟨us, ⟨es, ep', ⟨h1, h2, h3⟩, _⟩, _⟩ := hD; exact ⟨o, ho, h1⟩
theorem FnI.kit {h : Heap} {o : Obj} (hF : FnI fd o) (ho : h.get? a = some o) : KitAt a "function" h := by cases hF; exact ⟨_, ho, rfl⟩
theorem KitV.get {T : String} (k : KitV prog w its v T) (H : S C its s) : ∃ P, KitX K v (.type T) P ∧ P s.heap ∧ v ≠ .builtin "__main__.__loader__#opaque" := by
  cases k with
  | int => exact ⟨_, kitx_int, trivial, nofun⟩
  | str => exact ⟨_, kitx_str, trivial, nofun⟩
  | none => exact ⟨_, kitx_none, trivial, nofun⟩
  | list hm => obtain ⟨o, ho, h⟩ := H.get hm; exact ⟨_, kitx_list, h.kit ho, nofun⟩
  | tup hm => obtain ⟨o, ho, h⟩ := H.get hm; exact ⟨_, kitx_tuple, h.kit ho, nofun⟩
  | dict hm => obtain ⟨o, ho, h⟩ := H.get hm; exact ⟨_, kitx_dict, h.kit ho, nofun⟩
  | fn hm => obtain ⟨o, ho, h⟩ := H.get hm; exact ⟨_, kitx_fn, h.kit ho, nofun⟩
theorem r_isi_one {T T' : String} {b : Bool} {Q : Value → Shared → Prop} (H : S C its s) (hB : Bs prog w K gl C) (k : KitV prog w its v T) (e : kitOne K (.type T) (.type T') = some b) (h : ∀ s', S C its s' → Q (.bool b) s') :
    wpAny (model prog w) A (call (.builtin "isinstance") [v, .type T']) Q E s := by
  obtain ⟨P, Z, hp, hv⟩ := k.get H
  exact kia_one Z (hB.k H) hp e hv fun tk => h _ H.tk
theorem er_types {ts : List String} {us : List Value} (h : us.map er = ts.map .type) : us = ts.map .type := by
  induction ts generalizing us with
  | nil => exact List.map_eq_nil_iff.mp h
  | cons t ts ih =>
    obtain ⟨u, r, rfl, e1, e2⟩ := List.map_eq_cons_iff.mp h
    rw [ih e2]
    cases u <;> simp [er] at e1
    rw [e1]; rfl
theorem r_isi_tup {T : String} {ts : List String} {tp : Addr} {b : Bool} {Q : Value → Shared → Prop} (H : S C its s) (hB : Bs prog w K gl C) (k : KitV prog w its v T) (ht : (tp, TupI (ts.map .type)) ∈ its) (e : kitAny K (.type T) (ts.map .type) = some b) (h : ∀ s', S C its s' → Q (.bool b) s') :
    wpAny (model prog w) A (call (.builtin "isinstance") [v, .ref tp]) Q E s := by
  obtain ⟨P, Z, hp, hv⟩ := k.get H
  obtain ⟨o, ho, us, n, rfl, he⟩ := H.get ht
  have hu := er_types he
  refine kia_tup (its := ts.map .type) Z (hB.k H) hp (dd := Option.none) (n := n) (sl := #[]) (by rw [← hu]; simpa using ho) e hv fun tk => h _ H.tk
/-- keys of a dict, in order -/
noncomputable def KeyIt (d : Addr) (n ep : Nat) (i : Nat) (o : Obj) : Prop := o.cls = .type "dict_keyiterator" ∧ o.data = .fields #[.ref d, .int i 0, .int n 0, .int ep 0]
section
variable {α : Type} [DecidableEq α] {knd : PySem.KeyKind prog w α} {kvs : List (α × Value)} {d it : Addr} {ep : Option Nat}
theorem DictI.atE {n : Nat} {o : Obj} (hD : DictI knd kvs (some n) o) {h : Heap} (ho : h.get? d = some o) : ∃ us, Heap.DictAt knd h d us n ∧ us.map ek = kvs := by
  obtain ⟨us, ⟨es, n', h1, h2, h3, h4, h5⟩, e, hn'⟩ := hD
  obtain ⟨es', he⟩ := hn' n rfl
  rw [h2] at he; cases he
  exact ⟨us, ⟨o, es, ho, h1, h2, h3, h4, h5⟩, e⟩
theorem nx_keys (n : Nat) (hit : it ∉ C.tb) :
    Nx prog w C it kvs.length (fun i v => ∃ k X, kvs[i]? = some (k, X) ∧ knd.is k v = true) (KeyIt d kvs.length n) (fun its => (d, DictI knd kvs (some n)) ∈ its) := by
  refine ⟨fun A its s Q E i hA H hn hi h => ?_, fun A its s Q E hA H hn h => ?_⟩
  · obtain ⟨o, ho, hc, hd⟩ := H.get (.head _)
    obtain ⟨od, hod, hD⟩ := H.get (.tail _ hn)
    obtain ⟨us, hat, e⟩ := hD.atE hod
    have hl : us.length = kvs.length := by rw [← e]; simp
    have hi' : i < us.length := by omega
    refine wpAny_pyNext_dict_item (knd := knd) (kvs := us) ⟨o, ho, hc, by rw [hl]; exact hd⟩ hat (List.getElem?_eq_getElem hi') fun key h' hk ⟨o', ho', hc', hd'⟩ hs => ?_
    refine h key _ ⟨(us[i]'hi').1, er (us[i]'hi').2, ?_, hk⟩ (H.up .head hs ho' ⟨hc', by rw [← hl]; exact hd'⟩)
    rw [← e, List.getElem?_map, List.getElem?_eq_getElem hi']; rfl
  · obtain ⟨o, ho, hc, hd⟩ := H.get (.head _)
    obtain ⟨od, hod, hD⟩ := H.get (.tail _ hn)
    obtain ⟨us, hat, e⟩ := hD.atE hod
    have hl : us.length = kvs.length := by rw [← e]; simp
    exact wpAny_pyNext_dict_end (knd := knd) (kvs := us) hA ⟨o, ho, hc, by rw [hl]; exact hd⟩ hat (by rw [← hl]; simp) fun h' hx => h _ (H.extBut hx hit)
theorem it_keys {n : Nat} {Q : Value → Shared → Prop} (H : S C its s) (hd : (d, DictI knd kvs (some n)) ∈ its) (h : ∀ it s', it ∉ C.tb → S C ((it, KeyIt d kvs.length n 0) :: its) s' → Q (.ref it) s') :
    wpAny (model prog w) A (pyIter (.ref d)) Q E s := by
  obtain ⟨od, hod, hD⟩ := H.get hd
  obtain ⟨us, hat, e⟩ := hD.atE hod
  have hl : us.length = kvs.length := by rw [← e]; simp
  refine wpAny_pyIter_dict (H.sysm hd) hat (h _ _ H.fresh_tb (H.push ⟨rfl, ?_⟩ rfl))
  rw [hl]; rfl
theorem r_keys2 {Q : Value → Shared → Prop} (H : S C its s) (hd : (d, DictI knd kvs ep) ∈ its) (h : ∀ v s', S C ((v, ViewI "dict_keys" d) :: its) s' → Q (.ref v) s') :
    wpAny (model prog w) A (call (.builtin "dict.keys") [.ref d]) Q E s := by
  obtain ⟨o, ho, hD⟩ := H.get hd
  obtain ⟨us, h1, h2⟩ := hD.at ho
  exact call_meetsIn PySem.F.slot_dict_keys h1.typeIs PySem.F.entry_dict_keys (PySem.F.args_dict_keys_1 _) (kdl_meets_keys knd d (H.sysm hd)) ⟨⟨us, h1⟩, h _ _ (H.push (o := { cls := .type "dict_keys", data := .fields #[.ref d] }) (P := ViewI "dict_keys" d) rfl rfl)⟩
end
end
end Mc

namespace Mc
theorem forIn_app {β : Type} : ∀ (kw : List (Str × Value)) (f : Str × Value → β × List (Str × Value) → Sem (ForInStep (β × List (Str × Value)))) (_ : ∀ p ∈ kw, ∀ a b, f p (a, b) = pure (.yield (a, b ++ [p]))) (a : β) (b : List (Str × Value)),
    forIn kw (a, b) f = (pure (a, b ++ kw) : Sem _)
  | [], f, _, a, b => by rw [List.forIn_nil, List.append_nil]
  | p :: r, f, h, a, b => by
    rw [List.forIn_cons, h p (.head _), pure_bind]
    dsimp only
    rw [forIn_app r f (fun q hq => h q (.tail _ hq)), List.append_assoc]; rfl
theorem bind_kw {M : Model} {A : Around} {E : Value → Shared → Prop} {s : Shared} {Q : List (Str × Value) → Shared → Prop} {fd : FuncData} {x n dflt : Value} {kw : List (Str × Value)} {p1 p2 p3 : Pos} {T : Addr} {o : Obj} {k : Nat} {an1 an2 an3 : Option PySem.Expr} {df : List PySem.Expr} {kd : List (Option PySem.Expr)}
  (hp : fd.params = { posonlyargs := [], args := [⟨"self", an1, p1⟩, ⟨"nodes", an2, p2⟩], vararg := none, kwonlyargs := [], kw_defaults := kd, kwarg := some ⟨"kwargs", an3, p3⟩, defaults := df })
  (hd : fd.defaults = .ref T) (ho : s.heap.get? T = some o) (hs : o.data = .seq #[dflt] k) (hk : ∀ p ∈ kw, p.1 ≠ "self" ∧ p.1 ≠ "nodes") (hz : kw.length ≤ 1000)
  (h : wpAny M A (alloc { cls := .type "dict", data := .dict #[] }) (fun d s₁ => wpAny M A (List.foldlM (fun _ p => nsSet d p.1 p.2) PUnit.unit kw) (fun _ s₂ => Q [("self", x), ("nodes", n), ("kwargs", .ref d)] s₂) E s₁) E s) :
  wpAny M A (bindArgs fd ⟨[x, n], kw⟩) Q E s := by
  unfold bindArgs
  rw [hp]
  dsimp only [List.map_cons, List.map_nil, List.nil_append, List.zip_cons_cons, List.zip_nil_right, List.append_nil, List.length_cons, List.length_nil]
  refine wpAny_bind (wpAny_of_eq (forIn_app kw _ (fun p hp a b => ?_) _ _) ?_)
  · obtain ⟨h1, h2⟩ := hk p hp
    have c : ([Str.ofString "self", Str.ofString "nodes"].contains p.1 || ([] : List Str).contains p.1) = false := by
      rw [Bool.or_eq_false_iff]
      refine ⟨?_, rfl⟩
      rw [List.contains_cons, List.contains_cons, Bool.or_eq_false_iff, Bool.or_eq_false_iff]
      exact ⟨beq_eq_false_iff_ne.mpr h1, beq_eq_false_iff_ne.mpr h2, rfl⟩
    exact (if_neg (fun q => Bool.false_ne_true (c.symm.trans q))).trans (if_pos rfl)
  · rw [hd]
    refine wpAny_bind (wpAny_seqItems ho hs ?_)
    have e1 : (Str.ofString "self" == Str.ofString "nodes") = false := by decide +kernel
    have e2 : (Str.ofString "nodes" == Str.ofString "self") = false := by decide +kernel
    simp [e1, e2, List.lookup, List.filter, List.filterMap]
    have hz' : ¬ (sizeLine + 1 < kw.length) := by rw [sizeLine_eq]; omega
    rw [if_neg hz']
    refine wpAny_bind (wpAny_mono h (fun d s₁ h₁ => ?_) fun _ _ e => e)
    rw [← bind_pure_comp]
    exact wpAny_bind (wpAny_mono h₁ (fun _ s₂ h₂ => wpAny_pure h₂) fun _ _ e => e)
section
variable {prog : Program} {w : World} {A : Around} {E : Value → Shared → Prop} {K : Frag} {gl : List (Str × Value)} {C : Cx} {its its' : List Item} {s : Shared} {L a d : Addr} {vs : List Value} {X v : Value} {kvs : List (Str × Value)} {ep : Option Nat} {name : Str}
/-- a name is set in a dict of names -/
theorem r_nsSet {Q : Unit → Shared → Prop} (H : S C its s) (hv : er v = X) (hU : Up d (DictI (sk prog w) kvs ep) (DictI (sk prog w) (stored kvs name X) none) its its') (hz : kvs.length ≤ 900)
    (h : ∀ s', S C its' s' → Q () s') : wpAny (model prog w) A (nsSet d name v) Q E s := by
  subst hv
  obtain ⟨od, hod, us, ⟨es, ep', ⟨h1, h2, h3⟩, h4, h5, h6, h7⟩, h8, _⟩ := H.get hU.mem
  obtain ⟨oc, odi, oda, osl⟩ := od
  dsimp only at h1 h2 h3 h4
  subst h1 h2 h3 h4
  subst h8
  have e : ({ cls := Value.type "dict", dict := none, data := Data.dict es ep', slots := #[] } : Obj) = dictOf es.toList ep' := by simp [dictOf]
  rw [e] at hod
  have hk : KeysOf (sk prog w) es.toList.toArray := by simpa using h5
  unfold nsSet
  refine wpAny_bind (wpAny_bind (wpAny_askSetting (wpAny_pure (wpAny_bind (wpAny_mkText (wpAny_bind (wpAny_loadPart hod ?_)))))))
  have c : (!es.toList.toArray.any (·.key.isStr name) && es.toList.toArray.any (·.refKey)) = false := by
    have : es.toList.toArray.any (·.refKey) = false := by rw [← Array.any_toList]; exact noRef hk
    rw [this, Bool.and_false]
  dsimp only
  rw [aRefKeyMayBeTheName_at, c]
  refine wpAny_updatePart hod ?_
  have ge := Heap.get?_update_self (Obj.putName name (PyData.keyHash w.params name) (.str name s.toks) v) hod (by rw [putName_dict]; rfl)
  rw [putName_dict] at ge
  have el : es.toList.length = us.length := h6.length
  rw [List.length_map] at hz
  refine h _ ?_
  have hsb : Heap.SameBut d s.heap (s.heap.update d (Obj.putName name (PyData.keyHash w.params name) (.str name s.toks) v)) := Heap.SameBut.update ..
  refine H.up hU hsb ge ⟨stored us name v, ⟨_, _, ⟨rfl, rfl, rfl⟩, rfl, ?_, ?_, ?_⟩, stored_ek, nofun⟩
  · exact putL_keys keyHash_is hk
  · simpa using putL_pairs h6 h7
  · exact nodup_stored h7
/-- all of a call's keywords, stored -/
noncomputable def kwKvs (kvs kw : List (Str × Value)) : List (Str × Value) := kw.foldl (fun l p => stored l p.1 (er p.2)) kvs
theorem kwKvs_len : ∀ (kw kvs : List (Str × Value)), (kwKvs kvs kw).length ≤ kvs.length + kw.length
  | [], kvs => Nat.le_refl _
  | p :: r, kvs => by
    have h1 := kwKvs_len r (stored kvs p.1 (er p.2))
    have h2 : (stored kvs p.1 (er p.2)).length ≤ kvs.length + 1 := by unfold stored; split <;> simp
    show (kwKvs (stored kvs p.1 (er p.2)) r).length ≤ _
    rw [List.length_cons]; omega
theorem r_kwFold {Q : Unit → Shared → Prop} (kw kvs : List (Str × Value)) (s : Shared) (hz : kvs.length + kw.length ≤ 900) (H : S C ((d, DictI (sk prog w) kvs none) :: its) s)
    (h : ∀ s', S C ((d, DictI (sk prog w) (kwKvs kvs kw) none) :: its) s' → Q () s') : wpAny (model prog w) A (List.foldlM (fun _ p => nsSet d p.1 p.2) PUnit.unit kw) Q E s := by
  induction kw generalizing kvs s with
  | nil => exact wpAny_pure (h s H)
  | cons p r ih =>
    rw [List.foldlM_cons]
    rw [List.length_cons] at hz
    refine wpAny_bind (r_nsSet (prog := prog) (w := w) H rfl .head (Nat.le_trans (Nat.le_add_right _ _) hz) fun s' H' => ?_)
    refine ih _ s' ?_ H' h
    have h2 : (stored kvs p.1 (er p.2)).length ≤ kvs.length + 1 := by unfold stored; split <;> simp
    exact Nat.le_trans (Nat.add_le_add_right h2 _) (by rw [Nat.add_right_comm]; exact hz)
/-- a call of f(self, nodes, **kwargs) -/
theorem call_kwL {fd : FuncData} {o : Obj} {body : List Stmt} {x n dflt : Value} {kw : List (Str × Value)} {loc : List (Str × Option Value)} {R : Result → Shared → Prop} {f : Addr} {p1 p2 p3 : Pos} {T : Addr} {oT : Obj} {k : Nat} {an1 an2 an3 : Option PySem.Expr} {df : List PySem.Expr} {kd : List (Option PySem.Expr)}
    (H : S C its s) (hB : Bs prog w K gl C) (ho : s.heap.get? f = some o) (hd : o.data = .func fd) (hcd : s.heap.CodeRec fd.code fd.qualname) (hbody : fd.body = .stmts body) {dd uu : Nat} (hA : Rm A (dd + 1) (uu + 3))
    (hp : fd.params = { posonlyargs := [], args := [⟨"self", an1, p1⟩, ⟨"nodes", an2, p2⟩], vararg := none, kwonlyargs := [], kw_defaults := kd, kwarg := some ⟨"kwargs", an3, p3⟩, defaults := df })
    (hdf : fd.defaults = .ref T) (hoT : s.heap.get? T = some oT) (hsT : oT.data = .seq #[dflt] k) (hk : ∀ p ∈ kw, p.1 ≠ "self" ∧ p.1 ≠ "nodes") (hz : kw.length ≤ 800)
    (hcell : (fd.scope.names.all fun y => y.2 != .cell) = true) (hloc : ((["self", "nodes", "kwargs"] : List Str).all fun y => decide (fd.scope.names.lookup y = some .local)) = true)
    (hnd : nodupB (("self" : Str) :: "nodes" :: "kwargs" :: loc.map (·.1)) = true) (hl : (loc.all fun p => p.2.isNone) = true)
    (h : ∀ (d L : Addr) (s' : Shared) (A' : Around) (E' : Value → Shared → Prop), Rm A' dd uu → S C ((L, NsI (("self", some (er x)) :: ("nodes", some (er n)) :: ("kwargs", some (.ref d)) :: loc)) :: (d, DictI (sk prog w) (kwKvs [] kw) none) :: its) s' →
      let env : Env := callEnv fd L f; wpAny (model prog w) A' (execs body env) (fun fl s'' => R (.ok (.ret (match fl with | .ret v => v | _ => .none))) s'') E' s')
    (hco : fd.scope.isCoroutine = false := by rfl) (hgen : fd.scope.isGenerator = false := by rfl) (hkk : fd.scope.kind = .function := by rfl) :
    codeAny (model prog w) A (.call (.ref f) ⟨[x, n], kw⟩) R s := by
  refine codeAny_call_function hA.room ho hd hco hgen hbody hcd (bind_kw hp hdf hoT hsT hk (Nat.le_trans hz (by decide)) ?_)
  refine wpAny_alloc ?_
  have H1 := H.push (o := { cls := .type "dict", data := .dict #[] }) (P := DictI (sk prog w) [] none) ⟨[], ⟨#[], 0, ⟨rfl, rfl, rfl⟩, rfl, (fun e he => by simp at he), .nil, List.nodup_nil⟩, rfl, nofun⟩ rfl (d := s.drawn) (t := s.toks)
  refine r_kwFold (prog := prog) (w := w) kw [] _ (by simp; omega) H1 fun s₁ H2 => ?_
  have hx : ∀ y ∈ ([("self", x), ("nodes", n), ("kwargs", .ref s.heap.objs.size)] : List (Str × Value)), fd.scope.names.lookup y.1 = some .local := fun y hy => by
    have := List.all_eq_true.mp hloc y.1 (by
      rcases List.mem_cons.mp hy with rfl | hy
      · exact .head _
      rcases List.mem_cons.mp hy with rfl | hy
      · exact .tail _ (.head _)
      rcases List.mem_cons.mp hy with rfl | hy
      · exact .tail _ (.tail _ (.head _))
      · cases hy)
    exact of_decide_eq_true this
  refine wpAny_newFunctionEnv (noCell hcell) hx (fun h₁ hns hsb => ⟨?_, codeAny_func (h s.heap.objs.size s₁.heap.objs.size _ _ _ (hA.deeper _) ?_)⟩) hkk
  · obtain ⟨mc, hm, e⟩ := hB.L H2
    have : s₁.heap.NoLimit := ⟨mc, hm, e⟩
    exact this.fresh _ hsb
  · obtain ⟨oL, es, ep, hoL, hdL, hsk, hf⟩ := id hns
    have H3 : S C ((s₁.heap.objs.size, fun _ => True) :: (s.heap.objs.size, DictI (sk prog w) (kwKvs [] kw) none) :: its) ⟨s₁.heap.push { cls := Value.type "frame", data := Data.dict #[] }, s₁.gens, s₁.drawn, s₁.toks, s₁.os⟩ := H2.push (P := fun _ => True) trivial rfl
    have nd := nodupB_iff hnd
    refine S.up (d := s₁.drawn) H3 (P := fun _ => True) .head hsb hoL ⟨es, ep, hdL, hsk, nd, fun p hp => ?_⟩
    rw [hf]
    rw [List.nodup_cons, List.nodup_cons, List.nodup_cons] at nd
    obtain ⟨n1, n2, n3, n4⟩ := nd
    have e12 : (("nodes" : Str) == "self") = false := by decide +kernel
    have e13 : (("kwargs" : Str) == "self") = false := by decide +kernel
    have e23 : (("kwargs" : Str) == "nodes") = false := by decide +kernel
    have e12' : (("self" : Str) == "nodes") = false := by decide +kernel
    have e13' : (("self" : Str) == "kwargs") = false := by decide +kernel
    have e23' : (("nodes" : Str) == "kwargs") = false := by decide +kernel
    rcases List.mem_cons.mp hp with rfl | hp
    · simp [List.lookup, e12, e13, e12', e13']
    rcases List.mem_cons.mp hp with rfl | hp
    · simp [List.lookup, e12, e23, e12', e23']
    rcases List.mem_cons.mp hp with rfl | hp
    · simp [List.lookup, er]
    have hp1 : p.1 ∈ loc.map (·.1) := List.mem_map_of_mem (f := (·.1)) hp
    have q1 : (p.1 == ("self" : Str)) = false := beq_eq_false_iff_ne.mpr fun e => n1 (by rw [← e]; exact .tail _ (.tail _ hp1))
    have q2 : (p.1 == ("nodes" : Str)) = false := beq_eq_false_iff_ne.mpr fun e => n2 (by rw [← e]; exact .tail _ hp1)
    have q3 : (p.1 == ("kwargs" : Str)) = false := beq_eq_false_iff_ne.mpr fun e => n3 (by rw [← e]; exact hp1)
    have hn : p.2 = none := by
      have := List.all_eq_true.mp hl p hp
      simpa using this
    rw [hn]
    simp [List.lookup, q1, q2, q3]
/-- a dict display with written names -/
inductive EkL : List (Value × Value) → List (Str × Value) → Prop
  | nil : EkL [] []
  | cons {k : Str} {t : Tok} {v X : Value} {r r'} : er v = X → EkL r r' → EkL ((.str k t, v) :: r) ((k, X) :: r')
theorem EkL.all {vs : List (Value × Value)} (h : EkL vs kvs) : allStrKeys vs = true ∧ (strPairs vs).map ek = kvs := by
  induction h with
  | nil => exact ⟨rfl, rfl⟩
  | cons e _ ih =>
    refine ⟨?_, ?_⟩
    · show allStrKeys (_ :: _) = true
      simpa [allStrKeys] using ih.1
    · show (strPairs (_ :: _)).map ek = _
      have := ih.2
      simp only [strPairs, List.map_cons, List.filterMap_cons] at this ⊢
      rw [this]
      simp [ek, e]
theorem r_dict {Q : Value → Shared → Prop} {env : Env} {keys : List (Option PySem.Expr)} {values : List PySem.Expr} {pos : Pos} (H : S C its s) (hall : keys.all (·.isSome) = true) (hl : keys.length = values.length) (h0 : keys ≠ []) (hlen : keys.length ≤ 15)
    (h : ∀ (d : Addr) s', S C ((d, DictI (sk prog w) [] none) :: its) s' → wpAny (model prog w) A (evalPairs (pairTrees keys values env pos)) (fun vs s₁ => KdnMade prog w (sk prog w) d Q vs s₁) E s') :
    wpAny (model prog w) A (eval (.Dict keys values pos) env) Q E s := by
  refine wpAny_Dict_walk (knd := sk prog w) hall hl h0 hlen ?_
  exact h s.heap.objs.size _ (H.push (o := { cls := .type "dict", data := .dict #[] }) (P := DictI (sk prog w) [] none) ⟨[], ⟨#[], 0, ⟨rfl, rfl, rfl⟩, rfl, (fun e he => by simp at he), .nil, List.nodup_nil⟩, rfl, nofun⟩ rfl (d := s.drawn) (t := s.toks))
theorem r_dmade {Q : Value → Shared → Prop} {vs : List (Value × Value)} (H : S C its s) (hE : EkL vs kvs) (hn : nodupB (kvs.map (·.1)) = true) (hU : Up d (DictI (sk prog w) [] none) (DictI (sk prog w) kvs none) its its') (h : ∀ s', S C its' s' → Q (.ref d) s') :
    KdnMade prog w (sk prog w) d Q vs s := by
  obtain ⟨h1, h2⟩ := hE.all
  obtain ⟨o, ho, hD⟩ := H.get hU.mem
  obtain ⟨us, h3, h4⟩ := hD.at ho
  have hu : us = [] := by cases us with | nil => rfl | cons _ _ => simp at h4
  subst hu
  refine display_done_str h1 ?_ h3 fun h' hd hs => h _ (S.upD (Q := fun _ _ => True) H hU hd hs h2)
  have := nodupB_iff hn
  rw [← h2, ek_keys] at this
  exact this
theorem r_dict0 {Q : Value → Shared → Prop} {α : Type} [DecidableEq α] (knd : PySem.KeyKind prog w α) {env : Env} {pos : Pos} (H : S C its s) (h : ∀ (d : Addr) s', S C ((d, DictI knd [] none) :: its) s' → Q (.ref d) s') :
    wpAny (model prog w) A (eval (.Dict [] [] pos) env) Q E s :=
  wpAny_Dict_empty (h _ _ (H.push (o := { cls := .type "dict", data := .dict #[] }) (P := DictI knd [] none) ⟨[], ⟨#[], 0, ⟨rfl, rfl, rfl⟩, rfl, (fun e he => by simp at he), .nil, List.nodup_nil⟩, rfl, nofun⟩ rfl (d := s.drawn) (t := s.toks)))
/-- types, written -/
inductive TyL : List Value → List String → Prop
  | nil : TyL [] []
  | cons {T : String} {vs : List Value} {ts : List String} : TyL vs ts → TyL (.type T :: vs) (T :: ts)
theorem TyL.eq {vs : List Value} {ts : List String} (h : TyL vs ts) : vs = ts.map .type := by
  induction h with
  | nil => rfl
  | cons _ ih => rw [ih]; rfl
theorem r_isi_tup2 {T : String} {ts : List String} {tp : Addr} {b : Bool} {vs : List Value} {Q : Value → Shared → Prop} (H : S C its s) (hB : Bs prog w K gl C) (k : KitV prog w its v T) (ht : (tp, TupI vs) ∈ its) (hty : TyL vs ts) (e : kitAny K (.type T) (ts.map .type) = some b) (h : ∀ s', S C its s' → Q (.bool b) s') :
    wpAny (model prog w) A (call (.builtin "isinstance") [v, .ref tp]) Q E s := by
  rw [hty.eq] at ht
  exact r_isi_tup H hB k ht e h
/-- an empty dict is a dict of any kind -/
theorem DictI.empty {α β : Type} [DecidableEq α] [DecidableEq β] {k1 : PySem.KeyKind prog w α} {k2 : PySem.KeyKind prog w β} {ep : Option Nat} {o : Obj} (h : DictI k1 [] ep o) : DictI k2 [] none o := by
  obtain ⟨us, ⟨es, ep', h1, h2, h3, h4, h5⟩, e, _⟩ := h
  have hu : us = [] := by cases us with | nil => rfl | cons _ _ => simp at e
  subst hu
  have he : es.toList = [] := List.length_eq_zero_iff.mp (by rw [h4.length]; rfl)
  have he' : es = #[] := by cases es; simp at he; rw [he]
  subst he'
  exact ⟨[], ⟨#[], ep', h1, h2, (fun e he => by simp at he), .nil, List.nodup_nil⟩, rfl, nofun⟩
theorem S.conv {P P' : Obj → Prop} (H : S C its s) (hU : Up a P P' its its') (hP : ∀ o, P o → P' o) : S C its' s := by
  obtain ⟨o, ho, h⟩ := H.get hU.mem
  have := H.up hU (Heap.SameBut.refl ..) ho (hP o h) (d := s.drawn) (t := s.toks)
  exact this
end
end Mc

namespace Mc
theorem callEnvC_locals {fd : FuncData} {L a : Addr} : (PySem.callEnvC fd L a).locals = L := rfl
theorem lookup_nd : ∀ {l : List (Str × Addr)} {p : Str × Addr}, (l.map (·.1)).Nodup → p ∈ l → l.lookup p.1 = some p.2
  | [], _, _, h => nomatch h
  | q :: r, p, nd, h => by
    rw [List.map_cons, List.nodup_cons] at nd
    rw [List.lookup_cons]
    rcases List.mem_cons.mp h with e | h
    · rw [e, beq_self_eq_true]
    · rw [beq_eq_false_iff_ne.mpr fun e => nd.1 (by rw [← e]; exact List.mem_map_of_mem (f := (·.1)) h)]
      exact lookup_nd nd.2 h
section
variable {prog : Program} {w : World} {A : Around} {E : Value → Shared → Prop} {K : Frag} {gl : List (Str × Value)} {C : Cx} {its its' : List Item} {s : Shared}
theorem S.new_ge (H : S C its s) {a : Addr} (ha : s.heap.objs.size ≤ a) : C.B.get? a = none := by
  cases q : C.B.get? a with
  | none => rfl
  | some o =>
    by_cases h : a ∈ C.tb
    · obtain ⟨o', e⟩ := H.tbs _ h
      exact absurd (Heap.lt_size e) (Nat.not_lt.mpr ha)
    · exact absurd (Heap.lt_size (H.keep _ _ q h)) (Nat.not_lt.mpr ha)
theorem CellI.of {h : Heap} {c : Addr} {v : Option Value} (x : h.IsCell c v) : ∃ o, h.get? c = some o ∧ CellI (v.map er) o := by
  obtain ⟨o, ho, hd⟩ := x
  exact ⟨o, ho, v, hd, rfl⟩
/-- a frame and its cells onto the ledger -/
theorem S.cells {L : Addr} {m cm : Str → Option Value} {cs : List (Str × Addr)} {s₁ : Shared} {loc : List (Str × Option Value)} (H : S C its s) (hL : L = s.heap.objs.size) (x : InCallC s L m cs cm s₁) (hnd : (loc.map (·.1)).Nodup) (hl : ∀ p ∈ loc, (m p.1).map er = p.2)
    (hcs : ∀ p ∈ cs, cs.lookup p.1 = some p.2) : S C ((L, NsI loc) :: (cs.map (fun p => ((p.2, CellI ((cm p.1).map er)) : Item)) ++ its)) s₁ := by
  obtain ⟨⟨h', tk, e⟩, hns, hk, hab⟩ := x.toInCall
  subst e
  have hge : ∀ p ∈ cs, s.heap.objs.size ≤ p.2 := fun p hp => by have := x.above p.1 p.2 hp; rw [← hL]; exact Nat.le_of_lt this
  refine ⟨fun b o q hb => hk b o (H.keep b o q hb), fun p hp => ?_, fun p hp => ?_, ?_, fun a ha => ?_, H.gens, H.os, H.big, fun hm => ?_⟩
  · rcases List.mem_cons.mp hp with rfl | hp
    · obtain ⟨o, es, ep, ho, hd, hsk, hf⟩ := hns
      exact ⟨o, ho, es, ep, hd, hsk, hnd, fun p hp => by rw [hf]; exact hl p hp⟩
    · rcases List.mem_append.mp hp with hp | hp
      · obtain ⟨q, hq, rfl⟩ := List.mem_map.mp hp
        exact CellI.of (x.cell q.1 q.2 (hcs q hq))
      · obtain ⟨o, ho, hP⟩ := H.own p hp
        exact ⟨o, hk _ _ ho, hP⟩
  · rcases List.mem_cons.mp hp with rfl | hp
    · exact .inl (H.new_ge (Nat.le_of_eq hL.symm))
    · rcases List.mem_append.mp hp with hp | hp
      · obtain ⟨q, hq, rfl⟩ := List.mem_map.mp hp
        exact .inl (H.new_ge (hge q hq))
      · exact H.new p hp
  · rw [List.map_cons, List.map_append, List.nodup_cons, List.nodup_append]
    refine ⟨fun hm => ?_, ?_, H.nd, fun a ha b hb e => ?_⟩
    · rcases List.mem_append.mp hm with hm | hm
      · rw [List.map_map] at hm
        obtain ⟨q, hq, e⟩ := List.mem_map.mp hm
        exact absurd (x.above q.1 q.2 hq) (by rw [show q.2 = L from e]; exact Nat.lt_irrefl _)
      · obtain ⟨q, hq, e⟩ := List.mem_map.mp hm
        exact absurd (H.lt hq) (by rw [e, hL]; exact Nat.lt_irrefl _)
    · rw [List.map_map]
      exact List.pairwise_map.mpr x.apart
    · rw [List.map_map] at ha
      obtain ⟨q, hq, rfl⟩ := List.mem_map.mp ha
      obtain ⟨r, hr, rfl⟩ := List.mem_map.mp hb
      exact absurd (H.lt hr) (by rw [← e]; exact Nat.not_lt.mpr (hge q hq))
  · obtain ⟨o, e⟩ := H.tbs a ha
    exact ⟨o, hk _ _ e⟩
  · rcases List.mem_cons.mp hm with e | hm
    · exact absurd (e.trans hL) (Nat.ne_of_lt H.one)
    · rw [List.map_append, List.map_map] at hm
      rcases List.mem_append.mp hm with hm | hm
      · obtain ⟨q, hq, e⟩ := List.mem_map.mp hm
        have h1 := hge q hq
        rw [show q.2 = 1 from e] at h1
        exact absurd H.one (Nat.not_lt.mpr h1)
      · exact H.n1 hm
/-- a call of a function of which some names are cells -/
theorem call_cellL {fd : FuncData} {o : Obj} {body : List Stmt} {args : Args} {binds : List (Str × Value)} {loc : List (Str × Option Value)} {R : Result → Shared → Prop} {f : Addr} (cl : Addr → List Item)
    (H : S C its s) (hB : Bs prog w K gl C) (ho : s.heap.get? f = some o) (hd : o.data = .func fd) (hcd : s.heap.CodeRec fd.code fd.qualname) (hbody : fd.body = .stmts body) {dd uu : Nat} (hA : Rm A (dd + 1) (uu + 3))
    (hbind : BindsTo s fd args binds) (hclo : fd.closure = [])
    (hkind : ∀ n, (binds.all fun y => decide (fd.scope.names.lookup y.1 = some .local) || (decide (fd.scope.names.lookup y.1 = some .cell) && ((cellsFrom n fd.scope.names []).lookup y.1).isSome)) = true)
    (hnd : nodupB (loc.map (·.1)) = true) (hl : ∀ L, loc = loc.map fun p => (p.1, (bindL (PySem.callEnvC fd L f).kindOf binds (fun _ => none) p.1).map er))
    (hcl : ∀ L, cl L = (cellsFrom (L + 1) fd.scope.names []).map fun p => (p.2, CellI ((bindC (PySem.callEnvC fd L f).kindOf binds (fun _ => none) p.1).map er)))
    (hcs : ∀ n, nodupB ((cellsFrom n fd.scope.names []).map (·.1)) = true)
    (h : ∀ (L : Addr) (s' : Shared) (A' : Around) (E' : Value → Shared → Prop), Rm A' dd uu → S C ((L, NsI loc) :: (cl L ++ its)) s' → let env : Env := PySem.callEnvC fd L f; wpAny (model prog w) A' (execs body env) (fun fl s'' => R (.ok (.ret (match fl with | .ret v => v | _ => .none))) s'') E' s')
    (hco : fd.scope.isCoroutine = false := by rfl) (hgen : fd.scope.isGenerator = false := by rfl) (hk : fd.scope.kind = .function := by rfl) :
    codeAny (model prog w) A (.call (.ref f) args) R s := by
  refine codeAny_call_function hA.room ho hd hco hgen hbody hcd (hbind _ _ _ _ ?_)
  rw [hclo]
  refine wpAny_newFunctionEnv_cells hk (fun y hy => ?_) fun env he s₁ x => ?_
  · have := List.all_eq_true.mp (hkind (s.heap.objs.size + 1)) y hy
    rcases Bool.or_eq_true_iff.mp this with q | q
    · exact .inl (of_decide_eq_true q)
    · rw [Bool.and_eq_true] at q
      exact .inr ⟨of_decide_eq_true q.1, q.2⟩
  · subst he
    refine ⟨(hB.L H).keeps x.toInCall.keep, codeAny_func (h s.heap.objs.size s₁ _ _ (hA.deeper _) ?_)⟩
    rw [hcl]
    refine H.cells rfl x (nodupB_iff hnd) (fun p hp => ?_) (fun p hp => ?_)
    · rw [hl s.heap.objs.size] at hp
      obtain ⟨q, _, rfl⟩ := List.mem_map.mp hp
      rfl
    · have nd : ((cellsFrom (s.heap.objs.size + 1) fd.scope.names []).map (·.1)).Nodup := nodupB_iff (hcs _)
      exact lookup_nd nd hp
end
end Mc
namespace Mc
section
variable {prog : Program} {w : World} {A : Around} {E : Value → Shared → Prop} {K : Frag} {gl : List (Str × Value)} {C : Cx} {its its' : List Item} {s : Shared}
/-- texts, tokens erased -/
inductive StL : List Value → List Str → Prop
  | nil : StL [] []
  | cons {x : Str} {vs : List Value} {xs : List Str} : StL vs xs → StL (.str x 0 :: vs) (x :: xs)
theorem StL.are {vs : List Value} {xs : List Str} (h : StL vs xs) : ∀ {us : List Value}, us.map er = vs → StrsAre us xs := by
  induction h with
  | nil => intro us e; cases us with | nil => exact .nil | cons _ _ => simp at e
  | cons h ih =>
    intro us e
    cases us with
    | nil => simp at e
    | cons u us =>
      rw [List.map_cons, List.cons.injEq] at e
      have h1 := e.1
      cases u <;> simp [er] at h1
      subst h1
      exact .cons _ _ (ih e.2)
theorem r_in_strs {l : Addr} {vs : List Value} {ys : List Str} {k : Str} {t : Tok} {b : Bool} {Q : Value → Shared → Prop} (H : S C its s) (hm : (l, ListI vs) ∈ its) (hs : StL vs ys) (hb : (ys.any (· == k)) = b) (h : Q (.bool b) s) :
    wpAny (model prog w) A (compareOp .In (.str k t) (.ref l)) Q E s := by
  obtain ⟨o, ho, hL⟩ := H.get hm
  obtain ⟨us, n, hi, e⟩ := hL.at ho
  subst hb
  have := IsL.list hi
  exact in_list_strs (vs := us.toList) (by simpa using this) (hs.are e) h
end
end Mc
namespace Mc
/-- a word that no line opens -/
noncomputable def Hide (p : Prop) : Prop := p
theorem perm_in {α : Type} {x : α} {A B R R' : List α} (hp : R.Perm (x :: R')) : (A ++ (B ++ R)).Perm (x :: (A ++ (B ++ R'))) :=
  ((hp.append_left B).append_left A).trans ((List.Perm.append_left A List.perm_middle).trans List.perm_middle)
end Mc
namespace Mc
theorem er_er (v : Value) : er (er v) = er v := by cases v <;> rfl
theorem perm_out {α : Type} {x : α} {A B R R' : List α} (hp : R.Perm (x :: R')) : (x :: (A ++ (B ++ R'))).Perm (A ++ (B ++ R)) := (perm_in hp).symm
end Mc
namespace Mc
inductive KitP (prog : Program) (w : World) : (Obj → Prop) → String → Prop
  | list {vs : List Value} : KitP prog w (ListI vs) "list"
  | tup {vs : List Value} : KitP prog w (TupI vs) "tuple"
  | dict {α : Type} [DecidableEq α] {knd : PySem.KeyKind prog w α} {kvs : List (α × Value)} {ep : Option Nat} : KitP prog w (DictI knd kvs ep) "dict"
  | fn {fd : FuncData} : KitP prog w (FnI fd) "function"
theorem KitV.of {prog : Program} {w : World} {its : List Item} {a : Addr} {P : Obj → Prop} {T : String} (hm : (a, P) ∈ its) (k : KitP prog w P T) : KitV prog w its (.ref a) T := by
  cases k with
  | list => exact .list hm
  | tup => exact .tup hm
  | dict => exact .dict hm
  | fn => exact .fn hm
end Mc
namespace Mc
theorem NxT.conv {prog : Program} {w : World} {C : Cx} {it : Addr} {n n' : Nat} {elt elt' : Nat → List Value → Prop} {P : Nat → Obj → Prop} {need need' : List Item → Prop} (N : NxT prog w C it n elt P need) (hn : n = n') (he : ∀ i us, elt i us → elt' i us) (hneed : ∀ its, need' its → need its) : NxT prog w C it n' elt' P need' := by
  subst hn
  exact ⟨fun A its s Q E Y elts k pos i hA H hn hi h => N.next A its s Q E Y elts k pos i hA H (hneed _ hn) hi fun v t us s' e => h v t us s' (he _ _ e), fun A its s Q E hA H hn h => N.stop A its s Q E hA H (hneed _ hn) h⟩
end Mc
namespace Mc
theorem Pk1.appR {p : Item} {r r' : List Item} (h : Pk1 p r r') : ∀ {l : List Item}, Pk1 p (l ++ r) (l ++ r')
  | [] => h
  | _ :: l => .tail (h.appR (l := l))
end Mc

namespace Mc
/-- a list comprehension from its iterator on -/
noncomputable def LcSrc (prog : Program) (w : World) (A : Around) (E : Value → Shared → Prop) (env : Env) (elt iter : PySem.Expr) (x : Str) (px : Pos) (ifs : List PySem.Expr) (scope : Scope) (cl : List (Str × Addr)) (pos : Pos) (use : Option (Value → Sem Unit)) (Q : Value → Shared → Prop) (it : Value) (s₂ : Shared) : Prop :=
  wpAny (model prog w) A (newList []) (fun acc s₃ => wpAny (model prog w) A (newFunctionEnv scope env.globals cl [] env.qual none .none (some env)) (fun cenv s₄ =>
    codeAny (model prog w) A (.compStart (.ListComp elt [⟨.Name x px, iter, ifs, 0⟩] scope pos) 0 it acc { cenv with scope := relabel scope env }) (compPost (model prog w) A E use Q acc cenv.locals) s₄) E s₃) E s₂
section
variable {prog : Program} {w : World} {A : Around} {E : Value → Shared → Prop} {C : Cx} {its : List Item} {s : Shared} {env : Env} {elt iter : PySem.Expr} {x : Str} {px : Pos} {ifs : List PySem.Expr} {scope : Scope} {cl : List (Str × Addr)} {pos : Pos} {Q : Value → Shared → Prop}
theorem lc_eval (hclos : closureFor scope env = pure cl) (hkind : scope.kind = .function) (hnames : ∀ y ∈ scope.names, y.2 = .local → scope.names.lookup y.1 = some .local)
    (h : wpAny (model prog w) A (eval iter env) (fun xv s₁ => wpAny (model prog w) A (pyIter xv) (LcSrc prog w A E env elt iter x px ifs scope cl pos none Q) E s₁) E s)
    (hs : ∀ x, foldedSetIterable iter env x = pure x := by intro _; rfl) : wpAny (model prog w) A (eval (.ListComp elt [⟨.Name x px, iter, ifs, 0⟩] scope pos) env) Q E s := by
  rw [eval_ListComp]
  exact wpAny_comprehension_free (use := none) rfl hs hclos hkind hnames h
theorem lc_go {use : Option (Value → Sem Unit)} {it : Addr} {n : Nat} {eltP : Nat → Value → Prop} {P : Nat → Obj → Prop} {need : List Item → Prop} (N : Nx prog w C it n eltP P need) (hA : A.handled = none) (Inv : Nat → List Value → List Item → Prop) (hneed : ∀ i ys l p q, Inv i ys l → need (p :: q :: l))
    (hcell : ∀ y ∈ scope.names, y.2 ≠ .cell) (hkind : scope.kind = .function) (hx : scope.names.lookup x = some .local) (hz : n ≤ 100000) (hself : ∀ (Q' : Value → Shared → Prop) (E' : Value → Shared → Prop) its' s', S C ((it, P 0) :: its') s' → Q' (.ref it) s' → wpAny (model prog w) A (pyIter (.ref it)) Q' E' s')
    (h0 : Inv 0 [] its) (H : S C ((it, P 0) :: its) s)
    (turn : ∀ i v ys l cf D s₁ (E' : Value → Shared → Prop), i < n → eltP i v → Inv i ys l → ys.length ≤ i → S C ((cf, NsI [(x, some (er v))]) :: (D, ListI ys) :: (it, P (i + 1)) :: l) s₁ →
      wpAny (model prog w) A (forIn ifs true fun c r => if r = true then do let ok ← isTrue c (compEnvC scope cl cf env) (eval c (compEnvC scope cl cf env)); pure (ForInStep.yield ok) else pure (ForInStep.yield r))
        (fun ok s₃ => if ok = true then wpAny (model prog w) A (eval elt (compEnvC scope cl cf env)) (fun y s₄ => Hide (∃ l', Inv (i + 1) (ys ++ [er y]) l' ∧ S C ((cf, NsI [(x, some (er v))]) :: (D, ListI ys) :: (it, P (i + 1)) :: l') s₄)) E' s₃
          else Hide (∃ l', Inv (i + 1) ys l' ∧ S C ((cf, NsI [(x, some (er v))]) :: (D, ListI ys) :: (it, P (i + 1)) :: l') s₃)) E' s₁)
    (done : ∀ ys l cf X D s₁, Inv n ys l → ys.length ≤ n → cf ∉ C.tb → S C ((cf, NsI [(x, X)]) :: (D, ListI ys) :: l) s₁ → compPost (model prog w) A E use Q (.ref D) cf (.ok .next) s₁) :
    LcSrc prog w A E env elt iter x px ifs scope cl pos use Q (.ref it) s := by
  unfold LcSrc
  refine wpAny_newObj_type ?_
  have H1 := H.push (o := { cls := .type "list", data := .seq #[] }) (P := ListI []) (d := s.drawn) (t := s.toks) ⟨#[], 0, rfl, rfl⟩ rfl
  generalize hs1 : (⟨s.heap.push { cls := .type "list", data := .seq #[] }, s.gens, s.drawn, s.toks, s.os⟩ : Shared) = s1 at H1
  generalize hD : s.heap.objs.size = D at *
  have hcf := H1.fresh_tb
  refine wpAny_newFunctionEnv hcell (by intro y hy; simp at hy) (fun h₁ hns hsb => ?_) hkind
  have H2 := H1.push (o := { cls := .type "dict", data := .dict #[] }) (P := fun _ => True) (d := s1.drawn) (t := s1.toks) trivial rfl
  obtain ⟨oL, es, ep, hoL, hdL, hsk, hf⟩ := id hns
  have H3 : S C ((s1.heap.objs.size, NsI [(x, none)]) :: (D, ListI []) :: (it, P 0) :: its) ⟨h₁, s1.gens, s1.drawn, s1.toks + 0, s1.os⟩ :=
    S.up (d := s1.drawn) H2 (P := fun _ => True) .head hsb hoL ⟨es, ep, hdL, hsk, by simp, fun p hp => by
      rw [List.mem_singleton] at hp
      subst hp
      rw [hf]; rfl⟩
  generalize s1.heap.objs.size = cf at *
  have hloop : codeAny (model prog w) A (.compLoop (.ListComp elt [⟨.Name x px, iter, ifs, 0⟩] scope pos) 0 (.ref it) (.ref D) (compEnvC scope cl cf env)) (compPost (model prog w) A E use Q (.ref D) cf) ⟨h₁, s1.gens, s1.drawn, s1.toks + 0, s1.os⟩ := by
    refine codeAny_compLoop_tests (fun m s => ∃ i ys l X, m = n - i ∧ i ≤ n ∧ ys.length ≤ i ∧ Inv i ys l ∧ S C ((cf, NsI [(x, X)]) :: (D, ListI ys) :: (it, P i) :: l) s) (fun m s₀ ⟨i, ys, l, X, hm, hi, hyl, hI, Hs⟩ => ?_) n ⟨0, [], its, none, rfl, Nat.zero_le _, Nat.le_refl _, h0, H3⟩
    by_cases hlt : i < n
    · have Hp : S C ((it, P i) :: (cf, NsI [(x, X)]) :: (D, ListI ys) :: l) s₀ := Hs.perm (by
        refine (List.Perm.cons _ (List.Perm.swap _ _ _)).trans ?_
        exact List.Perm.swap _ _ _)
      refine N.next A ((cf, NsI [(x, X)]) :: (D, ListI ys) :: l) s₀ _ _ i hA Hp (hneed i ys l _ _ hI) hlt fun v s' he H' => ?_
      have H'' : S C ((cf, NsI [(x, X)]) :: (D, ListI ys) :: (it, P (i + 1)) :: l) s' := H'.perm (by
        refine (List.Perm.swap _ _ _).trans (List.Perm.cons _ (List.Perm.swap _ _ _)))
      refine wpAny_assign_Name (st_local (L := cf) H'' rfl (lookup_relabel_local hx) (by simp [compEnvC, relabel, hkind]) rfl (.head _) .head .head fun s'' H3 => ?_)
      refine wpAny_mono (turn i v ys l cf D s'' _ hlt he hI hyl H3) (fun ok s₃ h₃ => ?_) fun _ _ e => e
      split
      · rename_i hok
        rw [if_pos hok] at h₃
        refine wpAny_mono h₃ (fun y s₄ ⟨l', hI', H4⟩ => ?_) fun _ _ e => e
        exact r_append H4 rfl (.tail .head) (by omega) fun s5 H5 => ⟨n - (i + 1), by omega, i + 1, ys ++ [er y], l', _, rfl, hlt, by simp; omega, hI', H5⟩
      · rename_i hok
        rw [if_neg hok] at h₃
        obtain ⟨l', hI', H4⟩ := h₃
        exact ⟨n - (i + 1), by omega, i + 1, ys, l', _, rfl, hlt, by omega, hI', H4⟩
    · have hin : i = n := by omega
      subst hin
      have Hp : S C ((it, P i) :: (cf, NsI [(x, X)]) :: (D, ListI ys) :: l) s₀ := Hs.perm (by
        refine (List.Perm.cons _ (List.Perm.swap _ _ _)).trans ?_
        exact List.Perm.swap _ _ _)
      exact N.stop A ((cf, NsI [(x, X)]) :: (D, ListI ys) :: l) s₀ _ _ hA Hp (hneed i ys l _ _ hI) fun s' H' => done ys l cf X D s' hI hyl hcf H'
  refine codeAny_compStart_list hloop (hself _ _ ((cf, NsI [(x, none)]) :: (D, ListI []) :: its) _ (H3.perm ?_) hloop)
  refine (List.Perm.cons _ (List.Perm.swap _ _ _)).trans ?_
  exact List.Perm.swap _ _ _
/-- a comprehension's list as a value -/
theorem post_none {cf : Addr} {acc : Value} {m : List (Str × Option Value)} (H : S C ((cf, NsI m) :: its) s) (hcf : cf ∉ C.tb) (h : ∀ s', S C its s' → Q acc s') : compPost (model prog w) A E none Q acc cf (.ok .next) s := by
  obtain ⟨o, ho, es, ep, hd, hsk, hnd, hp⟩ := H.get (.head _)
  exact ⟨_, ⟨o, es, ep, ho, hd, hsk, fun _ => rfl⟩, fun h' hs => h _ (H.extBut hs.extBut hcf)⟩
end
end Mc
namespace Mc
theorem compEnv_locals {scope : Scope} {cl : List (Str × Addr)} {c : Addr} {env : Env} : (compEnvC scope cl c env).locals = c := rfl
section
variable {prog : Program} {w : World} {A : Around} {E : Value → Shared → Prop} {C : Cx} {its : List Item} {s : Shared} {Q : Value → Shared → Prop} {it : Addr}
theorem self_list {l : Addr} {i : Nat} (H : S C ((it, ListIt l i) :: its) s) (h : Q (.ref it) s) : wpAny (model prog w) A (pyIter (.ref it)) Q E s := by
  obtain ⟨o, ho, hc, hd⟩ := H.get (.head _)
  exact wpAny_pyIter_listiter (i := i) (l := l) ⟨o, ho, hc, hd⟩ h
theorem self_range {a : Int} {n i : Nat} (H : S C ((it, RangeIt a n i) :: its) s) (h : Q (.ref it) s) : wpAny (model prog w) A (pyIter (.ref it)) Q E s := by
  obtain ⟨o, ho, rfl⟩ := H.get (.head _)
  exact wpAny_pyIter_rangeiter ho h
/-- tuples, laid in order -/
noncomputable def tupIts (ts : List Addr) (ds : List (List Value)) : List Item := (ts.zip ds).map fun p => (p.1, TupI p.2)
theorem tupIts_snoc {ts : List Addr} {ds : List (List Value)} {t : Addr} {d : List Value} (h : ts.length = ds.length) : tupIts (ts ++ [t]) (ds ++ [d]) = tupIts ts ds ++ [(t, TupI d)] := by
  unfold tupIts
  rw [List.zip_append h, List.map_append]; rfl
end
end Mc

namespace Mc
/-- a table of codes -/
noncomputable def TabI (ps : Array Value) (o : Obj) : Prop := o = tabObj ps
/-- a code object -/
noncomputable def CodeI (q : Str) (o : Obj) : Prop := ∃ vs t, o.data = .fields vs ∧ vs[1]? = some (.str q t)
section
variable {prog : Program} {w : World} {A : Around} {E : Value → Shared → Prop} {K : Frag} {gl : List (Str × Value)} {C : Cx} {its its' : List Item} {s : Shared}
theorem S.codeRec (H : S C its s) {c : Addr} {q : Str} (hm : (c, CodeI q) ∈ its) : s.heap.CodeRec (.ref c) q := by
  obtain ⟨o, ho, vs, t, hd, hv⟩ := H.get hm
  exact ⟨c, o, vs, t, rfl, ho, hd, hv⟩
/-- a def within a function -/
theorem r_nest {P c : Addr} {ps : Array Value} {name qual : Str} {params : Arguments} {body : List Stmt} {scope : Scope} {pos : Pos} {firstLine : Nat} {clos : List (Str × Addr)} {env : Env} {mg mb : Str → Option Value} {p : Program} {loose : List Str} {mean : ExcName → Option Value} {Q : Value → Shared → Prop}
    (H : S C ((P, TabI ps) :: its) s) (hB : Bs prog w K gl C) (T : Top p loose mean mg mb C.B) (D : CodeHd C.B c P) (hc : c ∉ C.tb) (hbm : ∀ a ∈ C.tb, ∃ ps', C.B.get? a = some (tabObj ps')) (hcd : env.code = .ref c) (hge : env.globals = mainGlobals) (ht : TriplesOk ps.toList) (hnf : codeAmong pos ps.toList = none)
    (hcl : closureFor scope env = pure clos) (hPt : P ∈ C.tb)
    (h : ∀ f c' ctv doc pm s', S C ((f, FnI (fnX name qual params body scope clos .none .none doc pm none (.ref c') ctv)) :: (c', CodeI qual) :: (P, TabI (ps ++ #[rawInt pos.line, rawInt pos.col, .ref c'])) :: its) s' → Q (.ref f) s') :
    wpAny (model prog w) A (makeFunction name qual params (.stmts body) scope env [] [] [] pos firstLine) Q E s := by
  have hP : s.heap.get? P = some (tabObj ps) := by
    obtain ⟨o, ho, e⟩ := H.own _ (.head _)
    rw [ho, show o = tabObj ps from e]
  have hgs : s.heap.Ns mainGlobals mg := Bs.ns H T.g fun h => (hB.lo _ h).1 rfl
  have hgP : mainGlobals ≠ P := fun q => (hB.lo P hPt).1 q.symm
  obtain ⟨bm, ob, b1, b2, b3, b4, b5, b6⟩ := T.bmain
  have hbT : bm ∉ C.tb := fun q => by
    obtain ⟨ps', e⟩ := hbm _ q
    rw [e] at b3; cases b3; cases b4
  have hbP : bm ≠ P := fun q => hbT (q ▸ hPt)
  have hbG : bm ≠ mainGlobals := fun q => by
    obtain ⟨o, es, ep, e, hd, _⟩ := T.g
    rw [q, e] at b3; cases b3; rw [hd] at b6; cases b6
  have D' : CodeHd s.heap c P := by
    obtain ⟨o, vs, file, tf, flags, tg, inF, text, tt, e, r⟩ := D
    exact ⟨o, vs, file, tf, flags, tg, inF, text, tt, H.keep _ _ e hc, r⟩
  refine makeFunction_K (mg := mg) hcl hge hgs hcd D' hP ht hnf hgP ⟨bm, ob, b1, b2, hbG, hbP, H.keep _ _ b3 hbT, b4, b5, b6⟩ fun c' ctv doc h' tk hx hge hlt hrec htb => ?_
  obtain ⟨c₂, oc, vs, t, e2, hoc, hd, hv⟩ := hrec
  cases e2
  have hsz : s.heap.objs.size ≤ h'.objs.size := Nat.le_trans hge (Nat.le_of_lt hlt)
  refine h h'.objs.size c' ctv doc ((mg "__name__").getD .none) _ ⟨fun b o q hb => ?_, fun q hq => ?_, fun q hq => ?_, ?_, fun a ha => ?_, H.gens, H.os, H.big, fun hm => ?_⟩
  · exact Heap.get?_push_of_some _ (hx b o (fun e => hb (e ▸ hPt)) (H.keep b o q hb))
  · rcases List.mem_cons.mp hq with rfl | hq
    · exact ⟨_, Heap.get?_push_size _ rfl, rfl⟩
    rcases List.mem_cons.mp hq with rfl | hq
    · exact ⟨oc, Heap.get?_push_of_some _ hoc, vs, t, hd, hv⟩
    rcases List.mem_cons.mp hq with rfl | hq
    · exact ⟨_, Heap.get?_push_of_some _ htb, rfl⟩
    · obtain ⟨o, ho, hO⟩ := H.own q (.tail _ hq)
      have nd := H.nd
      rw [List.map_cons, List.nodup_cons] at nd
      exact ⟨o, Heap.get?_push_of_some _ (hx _ _ (fun e => nd.1 (by rw [← e]; exact List.mem_map_of_mem (f := (·.1)) hq)) ho), hO⟩
  · rcases List.mem_cons.mp hq with rfl | hq
    · exact .inl (H.new_ge hsz)
    rcases List.mem_cons.mp hq with rfl | hq
    · exact .inl (H.new_ge hge)
    rcases List.mem_cons.mp hq with rfl | hq
    · exact .inr hPt
    · exact H.new q (.tail _ hq)
  · rw [List.map_cons, List.map_cons, List.nodup_cons, List.nodup_cons]
    refine ⟨fun hm => ?_, fun hm => ?_, H.nd⟩
    · rcases List.mem_cons.mp hm with e | hm
      · exact absurd hlt (by rw [show c' = h'.objs.size from e.symm]; exact Nat.lt_irrefl _)
      · obtain ⟨q, hq, e⟩ := List.mem_map.mp hm
        have h1 : q.1 < s.heap.objs.size := by
          rcases List.mem_cons.mp hq with rfl | hq
          · exact Heap.lt_size hP
          · exact H.lt (.tail _ hq)
        rw [show q.1 = h'.objs.size from e] at h1
        exact absurd h1 (Nat.not_lt.mpr hsz)
    · obtain ⟨q, hq, e⟩ := List.mem_map.mp hm
      have h1 : q.1 < s.heap.objs.size := by
        rcases List.mem_cons.mp hq with rfl | hq
        · exact Heap.lt_size hP
        · exact H.lt (.tail _ hq)
      rw [show q.1 = c' from e] at h1
      exact absurd h1 (Nat.not_lt.mpr hge)
  · by_cases e : a = P
    · subst e; exact ⟨_, Heap.get?_push_of_some _ htb⟩
    · obtain ⟨o, ho⟩ := H.tbs a ha
      exact ⟨o, Heap.get?_push_of_some _ (hx _ _ e ho)⟩
  · have h1 := H.one
    rcases List.mem_cons.mp hm with e | hm
    · have : (1 : Nat) = h'.objs.size := e
      omega
    rcases List.mem_cons.mp hm with e | hm
    · have : (1 : Nat) = c' := e
      omega
    · exact H.n1 hm
end
end Mc

namespace Mc
section
variable {prog : Program} {w : World} {A : Around} {E : Value → Shared → Prop} {K : Frag} {gl : List (Str × Value)} {C : Cx} {its its' : List Item} {s : Shared}
theorem r_slice {value slice : Expr} {l : Addr} {items : Array Value} {vl vu : Value} {lo hi : Option Int} {Q : Value → Shared → Prop}
    (H : S C its s) (hl : s.heap.IsList l items) (pl : IsPart vl lo) (pu : IsPart vu hi) (hsz : items.size ≤ sizeLine)
    (hs : subscripted slice false (.ref l) (.ref s.heap.objs.size) = operate [.ref s.heap.objs.size, .ref l] (getItem (.ref l) (.ref s.heap.objs.size)))
    (ht : ∀ r, letTemporaryGo value (.ref l) r = pure ())
    (h : ∀ D s', S C ((D, ListI ((slicePick items lo hi none).toList.map er)) :: its) s' → Q (.ref D) s') :
    wpAny (model prog w) A (subscriptTail value slice (.ref l) (.ref s.heap.objs.size)) Q E { s with heap := s.heap.push { cls := .type "slice", data := .fields #[vl, vu, .none] } } := by
  refine subscriptTail_ops (Heap.IsList.typeIs (s := { s with heap := s.heap.push { cls := .type "slice", data := .fields #[vl, vu, .none] } }) (hl.push _)) list_getitem_lookup
    (wpAny_getItem_list_slice (hl.push _) (Heap.IsSliceOf.new ..) pl pu .none (by simp) ?_ hsz) hs ht
  have H1 := (H.push (o := { cls := .type "slice", data := .fields #[vl, vu, .none] }) (P := fun _ => True) (d := s.drawn) (t := s.toks) trivial rfl).tail
  exact h _ _ (H1.push (o := { cls := .type "list", data := .seq (slicePick items lo hi none) }) (P := ListI ((slicePick items lo hi none).toList.map er)) (d := s.drawn) (t := s.toks) ⟨_, _, rfl, rfl⟩ rfl)
theorem r_slice_to {value slice : Expr} {l : Addr} {vs : List Value} {b : Nat} {u : Tok} {Q : Value → Shared → Prop}
    (H : S C its s) (hm : (l, ListI vs) ∈ its) (hz : vs.length ≤ 1000)
    (hs : subscripted slice false (.ref l) (.ref s.heap.objs.size) = operate [.ref s.heap.objs.size, .ref l] (getItem (.ref l) (.ref s.heap.objs.size)))
    (ht : ∀ r, letTemporaryGo value (.ref l) r = pure ())
    (h : ∀ D s', S C ((D, ListI (vs.take b)) :: its) s' → Q (.ref D) s') :
    wpAny (model prog w) A (subscriptTail value slice (.ref l) (.ref s.heap.objs.size)) Q E { s with heap := s.heap.push { cls := .type "slice", data := .fields #[.none, .int b u, .none] } } := by
  obtain ⟨o, ho, hL⟩ := H.get hm
  obtain ⟨us, n, hi, e⟩ := hL.at ho
  have hl : us.size ≤ 1000 := by rw [← e] at hz; simpa using hz
  refine r_slice H (IsL.list hi) .none (.int _ _) (by rw [sizeLine_eq]; omega) hs ht fun D s' H' => h D s' ?_
  rw [slicePick_upto'] at H'
  simpa [List.map_take, e] using H'
theorem r_slice_from {value slice : Expr} {l : Addr} {vs : List Value} {b : Nat} {u : Tok} {Q : Value → Shared → Prop}
    (H : S C its s) (hm : (l, ListI vs) ∈ its) (hz : vs.length ≤ 1000)
    (hs : subscripted slice false (.ref l) (.ref s.heap.objs.size) = operate [.ref s.heap.objs.size, .ref l] (getItem (.ref l) (.ref s.heap.objs.size)))
    (ht : ∀ r, letTemporaryGo value (.ref l) r = pure ())
    (h : ∀ D s', S C ((D, ListI (vs.drop b)) :: its) s' → Q (.ref D) s') :
    wpAny (model prog w) A (subscriptTail value slice (.ref l) (.ref s.heap.objs.size)) Q E { s with heap := s.heap.push { cls := .type "slice", data := .fields #[.int b u, .none, .none] } } := by
  obtain ⟨o, ho, hL⟩ := H.get hm
  obtain ⟨us, n, hi, e⟩ := hL.at ho
  have hl : us.size ≤ 1000 := by rw [← e] at hz; simpa using hz
  refine r_slice H (IsL.list hi) (.int _ _) .none (by rw [sizeLine_eq]; omega) hs ht fun D s' H' => h D s' ?_
  rw [slicePick_from'] at H'
  simpa [List.map_drop, e] using H'
/-- a heap that keeps all, with one more object -/
theorem S.grow1 (H : S C its s) {h' : Heap} {P : Obj → Prop} {a : Addr} {o : Obj} (hk : ∀ b o, s.heap.get? b = some o → h'.get? b = some o) (ha : s.heap.objs.size ≤ a) (ho : h'.get? a = some o) (hP : P o) {d : Drawn} {t : Nat} :
    S C ((a, P) :: its) ⟨h', s.gens, d, t, s.os⟩ := by
  refine ⟨fun b o' e h => hk _ _ (H.keep b o' e h), fun p hp => ?_, fun p hp => ?_, ?_, fun b hb => ?_, H.gens, H.os, H.big, fun hm => ?_⟩
  · rcases List.mem_cons.mp hp with rfl | hp
    · exact ⟨o, ho, hP⟩
    · obtain ⟨o', e, h⟩ := H.own p hp
      exact ⟨o', hk _ _ e, h⟩
  · rcases List.mem_cons.mp hp with rfl | hp
    · exact .inl (H.new_ge ha)
    · exact H.new p hp
  · rw [List.map_cons, List.nodup_cons]
    refine ⟨fun hm => ?_, H.nd⟩
    obtain ⟨q, hq, e⟩ := List.mem_map.mp hm
    have h1 := H.lt hq
    rw [show q.1 = a from e] at h1
    exact absurd h1 (Nat.not_lt.mpr ha)
  · obtain ⟨o', e⟩ := H.tbs b hb
    exact ⟨o', hk _ _ e⟩
  · rcases List.mem_cons.mp hm with e | hm
    · have h1 := H.one
      have e : (1 : Nat) = a := e
      omega
    · exact H.n1 hm
/-- list of a list -/
theorem r_list_list {l : Addr} {vs : List Value} {Q : Value → Shared → Prop} (H : S C its s) (hm : (l, ListI vs) ∈ its) (hz : vs.length ≤ 1000)
    (h : ∀ D s', S C ((D, ListI vs) :: its) s' → Q (.ref D) s') : wpAny (model prog w) A (call (.type "list") [.ref l]) Q E s := by
  obtain ⟨o, ho, us, n, rfl, e⟩ := H.get hm
  have hl : us.size ≤ 1000 := by rw [← e] at hz; simpa using hz
  refine call_list_seq (hsz := by rw [sizeLine_eq]; omega) l (.inl rfl) ho rfl rfl fun h' c' hk hD => ?_
  exact h _ _ (H.grow1 hk (Nat.le_refl _) hD ⟨us, c', rfl, e⟩)
theorem er_ints {vs : List Value} {ns : List Int} (h : IntsAre vs ns) : vs.map er = ns.map fun n => .int n 0 := ints_er h
/-- the first numbers of a list handed in -/
theorem r_slice_given {value slice : Expr} {l : Addr} {vs : List Value} {ns : List Int} {b : Nat} {u : Tok} {Q : Value → Shared → Prop}
    (H : S C its s) (hb : C.B.IsList l vs.toArray) (hi : IntsAre vs ns) (hn : l ∉ C.tb) (hz : ns.length ≤ 1000)
    (hs : subscripted slice false (.ref l) (.ref s.heap.objs.size) = operate [.ref s.heap.objs.size, .ref l] (getItem (.ref l) (.ref s.heap.objs.size)))
    (ht : ∀ r, letTemporaryGo value (.ref l) r = pure ())
    (h : ∀ D s', S C ((D, ListI ((ns.take b).map fun n => .int n 0)) :: its) s' → Q (.ref D) s') :
    wpAny (model prog w) A (subscriptTail value slice (.ref l) (.ref s.heap.objs.size)) Q E { s with heap := s.heap.push { cls := .type "slice", data := .fields #[.none, .int b u, .none] } } := by
  obtain ⟨o, ho, r⟩ := hb
  have hl : vs.length ≤ 1000 := by rw [hi.length]; exact hz
  refine r_slice H (items := vs.toArray) ⟨o, H.keep _ _ ho hn, r⟩ .none (.int _ _) (by rw [sizeLine_eq]; simp; omega) hs ht fun D s' H' => h D s' ?_
  rw [slicePick_upto'] at H'
  have e := er_ints hi
  simpa [List.map_take, e] using H'
end
end Mc

namespace Mc
/- data: what a value of the ledger means -/
mutual
noncomputable def Den (its : List Item) : PyData → Value → Prop
  | .none, v => v = .none
  | .bool b, v => v = .bool b
  | .int i, v => v = .int i 0
  | .str x, v => v = .str x 0
  | .list ds, v => ∃ a vs, v = .ref a ∧ (a, ListI vs) ∈ its ∧ Dens its ds vs
  | .tuple ds, v => ∃ a vs, v = .ref a ∧ (a, TupI vs) ∈ its ∧ Dens its ds vs
  | .dict _, _ => False
noncomputable def Dens (its : List Item) : List PyData → List Value → Prop
  | [], vs => vs = []
  | d :: ds, vs => ∃ v r, vs = v :: r ∧ Den its d v ∧ Dens its ds r
end
theorem er_none {v : Value} (h : er v = .none) : v = .none := by cases v <;> simp [er] at h <;> rfl
theorem er_int {v : Value} {i : Int} (h : er v = .int i 0) : ∃ t, v = .int i t := by cases v <;> simp [er] at h; exact ⟨_, by rw [h]⟩
theorem er_str {v : Value} {x : Str} (h : er v = .str x 0) : ∃ t, v = .str x t := by cases v <;> simp [er] at h; exact ⟨_, by rw [h]⟩
theorem er_ref {v : Value} {a : Addr} (h : er v = .ref a) : v = .ref a := by cases v <;> simp [er] at h; rw [h]
section
variable {prog : Program} {w : World} {A : Around} {E : Value → Shared → Prop} {K : Frag} {gl : List (Str × Value)} {C : Cx} {its its' : List Item} {s : Shared}
mutual
noncomputable def okD : PyData → Bool
  | .none => true
  | .bool _ => false
  | .int _ => true
  | .str x => PySem.PyData.strOk x
  | .list ds => okDs ds
  | .tuple ds => okDs ds
  | .dict _ => false
noncomputable def okDs : List PyData → Bool
  | [] => true
  | d :: ds => okD d && okDs ds
end
/-- data that is compared: no truth values, no dicts, not deep -/
structure OkD (d : PyData) : Prop where
  ok : okD d = true
  dp : d.depth ≤ 64
/-- some items' objects are others, all else is kept -/
theorem S.re {ps ps' : List Item} {h' : Heap} {d : Drawn} {t : Nat} (H : S C (ps ++ its) s) (hk : ps'.map (·.1) = ps.map (·.1)) (hkeep : ∀ c o, c ∉ ps.map (·.1) → s.heap.get? c = some o → h'.get? c = some o) (hown : ∀ p ∈ ps', ∃ o, h'.get? p.1 = some o ∧ p.2 o) (ht : ∀ p ∈ ps, p.1 ∉ C.tb) :
    S C (ps' ++ its) ⟨h', s.gens, d, t, s.os⟩ := by
  have hkeys : (ps' ++ its).map (·.1) = (ps ++ its).map (·.1) := by rw [List.map_append, List.map_append, hk]
  have nd := H.nd
  rw [List.map_append, List.nodup_append] at nd
  have hnew : ∀ a ∈ ps.map (·.1), C.B.get? a = none := fun a ha => by
    obtain ⟨p, hp, rfl⟩ := List.mem_map.mp ha
    exact (H.new p (List.mem_append_left _ hp)).resolve_right (ht p hp)
  refine ⟨fun b o e hb => hkeep b o (fun hm => ?_) (H.keep b o e hb), fun p hp => ?_, fun p hp => ?_, by rw [hkeys]; exact H.nd, fun a ha => ?_, H.gens, H.os, H.big, by rw [hkeys]; exact H.n1⟩
  · rw [hnew b hm] at e; cases e
  · rcases List.mem_append.mp hp with hp | hp
    · exact hown p hp
    · obtain ⟨o, ho, hP⟩ := H.own p (List.mem_append_right _ hp)
      exact ⟨o, hkeep _ _ (fun hm => nd.2.2 _ hm _ (List.mem_map_of_mem (f := (·.1)) hp) rfl) ho, hP⟩
  · rcases List.mem_append.mp hp with hp | hp
    · have : p.1 ∈ ps.map (·.1) := by rw [← hk]; exact List.mem_map_of_mem (f := (·.1)) hp
      exact .inl (hnew _ this)
    · exact H.new p (List.mem_append_right _ hp)
  · obtain ⟨o, ho⟩ := H.tbs a ha
    refine ⟨o, hkeep _ _ (fun hm => ?_) ho⟩
    obtain ⟨p, hp, rfl⟩ := List.mem_map.mp hm
    exact ht p hp ha
theorem S.drop {ps : List Item} {h' : Heap} {d : Drawn} {t : Nat} (H : S C (ps ++ its) s) (hkeep : ∀ c o, c ∉ ps.map (·.1) → s.heap.get? c = some o → h'.get? c = some o) (ht : ∀ p ∈ ps, p.1 ∉ C.tb) : S C its ⟨h', s.gens, d, t, s.os⟩ := by
  have nd := H.nd
  rw [List.map_append, List.nodup_append] at nd
  refine ⟨fun b o e hb => hkeep b o (fun hm => ?_) (H.keep b o e hb), fun p hp => ?_, fun p hp => H.new p (List.mem_append_right _ hp), nd.2.1, fun a ha => ?_, H.gens, H.os, H.big, fun h => H.n1 (by rw [List.map_append]; exact List.mem_append_right _ h)⟩
  · obtain ⟨p, hp, rfl⟩ := List.mem_map.mp hm
    rw [(H.new p (List.mem_append_left _ hp)).resolve_right (ht p hp)] at e; cases e
  · obtain ⟨o, ho, hP⟩ := H.own p (List.mem_append_right _ hp)
    exact ⟨o, hkeep _ _ (fun hm => nd.2.2 _ hm _ (List.mem_map_of_mem (f := (·.1)) hp) rfl) ho, hP⟩
  · obtain ⟨o, ho⟩ := H.tbs a ha
    refine ⟨o, hkeep _ _ (fun hm => ?_) ho⟩
    obtain ⟨p, hp, rfl⟩ := List.mem_map.mp hm
    exact ht p hp ha
end
end Mc

namespace Mc
section
variable {prog : Program} {w : World} {A : Around} {E : Value → Shared → Prop} {K : Frag} {gl : List (Str × Value)} {C : Cx} {its its' : List Item} {s : Shared} {it : Addr}
/-- an iterator of several objects whose things are new tuples, taken apart -/
structure NxZ (prog : Program) (w : World) (C : Cx) (it : Addr) (n : Nat) (elt : Nat → List Value → Prop) (P : Nat → List Item) (need : List Item → Prop) : Prop where
  next : ∀ (A : Around) its s (Q E : Value → Shared → Prop) (Y : Shared → Prop) (elts : List PySem.Expr) (k : Nat) (pos : Pos) i, A.handled = none → S C (P i ++ its) s → need its → i < n →
    (∀ t us s', elt i us → S C (P (i + 1) ++ its) s' → s'.heap.IsTuple t us.toArray → Q (.ref t) s') →
    wpAny (model prog w) A (pyNext (.ref it)) (fun r s₁ => match r with | none => Y s₁ | some v => wpAny (model prog w) A (letOwnedTupleGo (.Tuple elts k pos) (.ref it) v) (fun _ s₂ => Q v s₂) E s₁) E s
  stop : ∀ (A : Around) its s (Q : Option Value → Shared → Prop) (E : Value → Shared → Prop), A.handled = none → S C (P n ++ its) s → need its →
    (∀ s', S C its s' → Q none s') → wpAny (model prog w) A (pyNext (.ref it)) Q E s
noncomputable def TurnEndZ (C : Cx) (P : List Item) (Inv : List Item → Prop) (R : Result → Shared → Prop) (f : Flow) (s : Shared) : Prop := match f with
  | .next => ∃ l, Inv l ∧ S C (P ++ l) s
  | .cont => ∃ l, Inv l ∧ S C (P ++ l) s
  | .brk => R (.ok .next) s
  | .ret v => R (.ok (.ret v)) s
noncomputable def ZipI (TI TO : Addr) (o : Obj) : Prop := o = { cls := .type "zip", data := .fields #[.none, .bool false, .bool false, .ref TI, .ref TO] }
noncomputable def PairI (a b : Value) (o : Obj) : Prop := o = { cls := .type "tuple", data := .seq #[a, b] }
noncomputable def zipP (z TI TO i1 i2 l1 l2 : Addr) (i : Nat) : List Item := [(z, ZipI TI TO), (TO, fun o => ∃ a b, PairI a b o), (i1, ListIt l1 i), (i2, ListIt l2 i), (TI, PairI (.ref i1) (.ref i2))]

/-- a heap that keeps all, with more objects -/
theorem S.grow {ps : List Item} (H : S C its s) {h' : Heap} (hk : ∀ b o, s.heap.get? b = some o → h'.get? b = some o) (hge : ∀ p ∈ ps, s.heap.objs.size ≤ p.1) (hown : ∀ p ∈ ps, ∃ o, h'.get? p.1 = some o ∧ p.2 o) (nd : (ps.map (·.1)).Nodup) {d : Drawn} {t : Nat} :
    S C (ps ++ its) ⟨h', s.gens, d, t, s.os⟩ := by
  refine ⟨fun b o' e h => hk _ _ (H.keep b o' e h), fun p hp => ?_, fun p hp => ?_, ?_, fun b hb => ?_, H.gens, H.os, H.big, fun hm => ?_⟩
  · rcases List.mem_append.mp hp with hp | hp
    · exact hown p hp
    · obtain ⟨o', e, h⟩ := H.own p hp
      exact ⟨o', hk _ _ e, h⟩
  · rcases List.mem_append.mp hp with hp | hp
    · exact .inl (H.new_ge (hge p hp))
    · exact H.new p hp
  · rw [List.map_append, List.nodup_append]
    refine ⟨nd, H.nd, fun a ha b hb e => ?_⟩
    obtain ⟨p, hp, rfl⟩ := List.mem_map.mp ha
    obtain ⟨q, hq, rfl⟩ := List.mem_map.mp hb
    have h1 := H.lt hq
    have h2 := hge p hp
    have e : p.1 = q.1 := e
    exact absurd h1 (by rw [← e]; exact Nat.not_lt.mpr h2)
  · obtain ⟨o', e⟩ := H.tbs b hb
    exact ⟨o', hk _ _ e⟩
  · rw [List.map_append] at hm
    rcases List.mem_append.mp hm with hm | hm
    · obtain ⟨p, hp, e⟩ := List.mem_map.mp hm
      have h1 := H.one
      have h2 := hge p hp
      have e : p.1 = 1 := e
      exact absurd h1 (by rw [← e]; exact Nat.not_lt.mpr h2)
    · exact H.n1 hm
theorem S.fresh_ge (H : S C its s) {a : Addr} (h : s.heap.objs.size ≤ a) : a ∉ C.tb := fun hm => by
  obtain ⟨o, e⟩ := H.tbs _ hm
  exact absurd (Heap.lt_size e) (Nat.not_lt.mpr h)
/-- xs + ys -/
theorem r_add_lists {l1 l2 : Addr} {xs ys : List Value} {Q : Value → Shared → Prop} (H : S C its s) (h1 : (l1, ListI xs) ∈ its) (h2 : (l2, ListI ys) ∈ its) (hz : xs.length + ys.length ≤ 1000000)
    (h : ∀ D s', S C ((D, ListI (xs ++ ys)) :: its) s' → Q (.ref D) s') : wpAny (model prog w) A (binaryOp .Add (.ref l1) (.ref l2)) Q E s := by
  obtain ⟨ol1, hol1, hL1⟩ := H.get h1
  obtain ⟨us1, n1, hi1, e1⟩ := hL1.at hol1
  obtain ⟨ol2, hol2, hL2⟩ := H.get h2
  obtain ⟨us2, n2, hi2, e2⟩ := hL2.at hol2
  have k1 := len_er e1
  have k2 := len_er e2
  refine PySem.P.add_list hi1 hi2 (h _ _ (H.push (P := ListI (xs ++ ys)) ⟨_, _, rfl, ?_⟩ rfl)) (by rw [sizeLine_eq]; omega)
  rw [Array.toList_append, List.map_append, e1, e2]
/-- reversed(xs) -/
noncomputable def RevI (l : Addr) (i : Int) (o : Obj) : Prop := o.cls = .type "list_reverseiterator" ∧ o.data = .fields #[.ref l, rawInt i]
end
end Mc

namespace Mc
section
variable {prog : Program} {w : World} {A : Around} {E : Value → Shared → Prop} {K : Frag} {gl : List (Str × Value)} {C : Cx} {its its' : List Item} {s : Shared} {it : Addr}
/-- an iterator that runs code of its own: St i, what it owns at its i-th thing; Fin, what is left of it -/
structure Nz (prog : Program) (w : World) (C : Cx) (it : Addr) (d u : Nat) (n : Nat) (elt : Nat → Value → Prop) (St : Nat → List Item → Prop) (Fin : List Item → Prop) : Prop where
  next : ∀ (A : Around) its fr s (Q : Option Value → Shared → Prop) (E : Value → Shared → Prop) i, Rm A d u → St i its → S C (its ++ fr) s → i < n →
    (∀ v its' s', elt i v → St (i + 1) its' → S C (its' ++ fr) s' → Q (some v) s') → wpAny (model prog w) A (pyNext (.ref it)) Q E s
  stop : ∀ (A : Around) its fr s (Q : Option Value → Shared → Prop) (E : Value → Shared → Prop), Rm A d u → St n its → S C (its ++ fr) s →
    (∀ its' s', Fin its' → S C (its' ++ fr) s' → Q none s') → wpAny (model prog w) A (pyNext (.ref it)) Q E s
theorem r_slice_to2 {value slice : PySem.Expr} {l n : Addr} {vs : List Value} {b : Nat} {u : Tok} {Q : Value → Shared → Prop} {s₁ : Shared} {d : Drawn} {t : Nat}
    (H : S C its s) (hm : (l, ListI vs) ∈ its) (hz : vs.length ≤ 1000) (e : s₁ = ⟨s.heap.push { cls := .type "slice", data := .fields #[.none, .int b u, .none] }, s.gens, d, t, s.os⟩) (en : n = s.heap.objs.size)
    (hs : subscripted slice false (.ref l) (.ref n) = operate [.ref n, .ref l] (getItem (.ref l) (.ref n)))
    (ht : ∀ r, letTemporaryGo value (.ref l) r = pure ())
    (h : ∀ D s', S C ((D, ListI (vs.take b)) :: its) s' → Q (.ref D) s') :
    wpAny (model prog w) A (subscriptTail value slice (.ref l) (.ref n)) Q E s₁ := by
  subst e en
  exact r_slice_to (s := ⟨s.heap, s.gens, d, t, s.os⟩) H.tk hm hz hs ht h
theorem r_slice_from2 {value slice : PySem.Expr} {l n : Addr} {vs : List Value} {b : Nat} {u : Tok} {Q : Value → Shared → Prop} {s₁ : Shared} {d : Drawn} {t : Nat}
    (H : S C its s) (hm : (l, ListI vs) ∈ its) (hz : vs.length ≤ 1000) (e : s₁ = ⟨s.heap.push { cls := .type "slice", data := .fields #[.int b u, .none, .none] }, s.gens, d, t, s.os⟩) (en : n = s.heap.objs.size)
    (hs : subscripted slice false (.ref l) (.ref n) = operate [.ref n, .ref l] (getItem (.ref l) (.ref n)))
    (ht : ∀ r, letTemporaryGo value (.ref l) r = pure ())
    (h : ∀ D s', S C ((D, ListI (vs.drop b)) :: its) s' → Q (.ref D) s') :
    wpAny (model prog w) A (subscriptTail value slice (.ref l) (.ref n)) Q E s₁ := by
  subst e en
  exact r_slice_from (s := ⟨s.heap, s.gens, d, t, s.os⟩) H.tk hm hz hs ht h
theorem r_slice_to3 {value slice : PySem.Expr} {l n : Addr} {vs : List Value} {b : Nat} {u : Tok} {Q : Value → Shared → Prop} {s₁ : Shared} {d : Drawn} {t : Nat}
    (H : S C its s) (hm : (l, ListI vs) ∈ its) (hz : vs.length ≤ 1000) (e : s₁ = ⟨s.heap.push { cls := .type "slice", data := .fields #[.none, .int b u, .none] }, s.gens, d, t, s.os⟩) (en : n = s.heap.objs.size)
    (hs : subscripted slice false (.ref l) (.ref n) = operate [.ref n, .ref l] (getItem (.ref l) (.ref n)))
    (h : ∀ D s', S C ((D, ListI (vs.take b)) :: its) s' → Q (.ref D) s') :
    wpAny (model prog w) A (subscriptTail value slice (.ref l) (.ref n)) Q E s₁ :=
  kba_turn (value' := .Name "x" ⟨0, 0, 0, 0⟩) (fun r => rfl) (r_slice_to2 H hm hz e en hs (fun r => rfl) h)
end
end Mc

namespace Mc
section
variable {prog : Program} {w : World} {K : Frag} {gl : List (Str × Value)} {C : Cx} {its : List Item} {s : Shared} {A : Around} {E : Value → Shared → Prop}
end
end Mc

namespace Mc
section
variable {prog : Program} {w : World} {A : Around} {C : Cx} {its : List Item} {s : Shared} {it : Addr}
theorem TurnEnd.any {P : Obj → Prop} {Inv : List Item → Prop} {R : Result → Shared → Prop} {f : Flow} (h : TurnEnd C it P Inv (fun _ _ => False) f s) : TurnEnd C it P Inv R f s := by
  cases f <;> first | exact h | exact h.elim
/-- a cut whose post is a variable for the walk -/
theorem cut1 {β : Type} {M : Model} {t : Sem β} {Q : β → Shared → Prop} {E : Value → Shared → Prop} (P : β → Shared → Prop) (h1 : ∀ QC : β → Shared → Prop, (∀ a s, P a s → QC a s) → wpAny M A t QC E s) (h2 : ∀ a s, P a s → Q a s) : wpAny M A t Q E s :=
  wpAny_mono (h1 P fun _ _ h => h) h2 fun _ _ h => h
/-- loops that no break and no return leaves; the turn's post is a variable for the walk -/
theorem for_nx1 {env : Env} {n : Nat} {elt : Nat → Value → Prop} {P : Nat → Obj → Prop} {need : List Item → Prop} {R : Result → Shared → Prop} {x : Str} {p : Pos} {body orelse : List Stmt}
    (N : Nx prog w C it n elt P need) (hA : A.handled = none) (Inv : Nat → List Item → Prop) (hneed : ∀ i l, Inv i l → need l) (h0 : Inv 0 its) (H : S C ((it, P 0) :: its) s)
    (turn : ∀ i v l s₁ (E' : Value → Shared → Prop), i < n → elt i v → Inv i l → S C ((it, P (i + 1)) :: l) s₁ →
      ∀ QI : Flow → Shared → Prop, (∀ f s, TurnEnd C it (P (i + 1)) (Inv (i + 1)) (fun _ _ => False) f s → QI f s) →
      wpAny (model prog w) A (storeName env x v) (fun _ s₂ => wpAny (model prog w) A (execs body env) QI E' s₂) E' s₁)
    (done : ∀ l s₁ (E' : Value → Shared → Prop), Inv n l → S C l s₁ → wpAny (model prog w) A (execs orelse env) (fun f s₃ => R (.ok f) s₃) E' s₁) :
    codeAny (model prog w) A (.forLoop (.Name x p) (.ref it) body orelse env) R s :=
  for_nx N hA Inv hneed h0 H (fun i v l s₁ E' hi he hI H' => turn i v l s₁ E' hi he hI H' _ fun _ _ h => h.any) done
theorem for_nxT1 {env : Env} {n : Nat} {elt : Nat → List Value → Prop} {P : Nat → Obj → Prop} {need : List Item → Prop} {R : Result → Shared → Prop} {elts : List PySem.Expr} {k : Nat} {p : Pos} {body orelse : List Stmt}
    (N : NxT prog w C it n elt P need) (hA : A.handled = none) (hlen : ∀ i us, elt i us → (assignEach elts env).length = us.length) (hst : List.findIdx? (fun x => x.1) (assignEach elts env) = none)
    (Inv : Nat → List Item → Prop) (hneed : ∀ i l, Inv i l → need l) (h0 : Inv 0 its) (H : S C ((it, P 0) :: its) s)
    (turn : ∀ i us l s₁ (E' : Value → Shared → Prop), i < n → elt i us → Inv i l → S C ((it, P (i + 1)) :: l) s₁ →
      ∀ QI : Flow → Shared → Prop, (∀ f s, TurnEnd C it (P (i + 1)) (Inv (i + 1)) (fun _ _ => False) f s → QI f s) →
      wpAny (model prog w) A (assignInOrder (List.map (fun x => x.2) (assignEach elts env)) us) (fun _ s₂ => wpAny (model prog w) A (execs body env) QI E' s₂) E' s₁)
    (done : ∀ l s₁ (E' : Value → Shared → Prop), Inv n l → S C l s₁ → wpAny (model prog w) A (execs orelse env) (fun f s₃ => R (.ok f) s₃) E' s₁) :
    codeAny (model prog w) A (.forLoop (.Tuple elts k p) (.ref it) body orelse env) R s :=
  for_nxT N hA hlen hst Inv hneed h0 H (fun i us l s₁ E' hi he hI H' => turn i us l s₁ E' hi he hI H' _ fun _ _ h => h.any) done
/-- a comprehension without tests; the turn's post is a variable for the walk -/
theorem lc_go1 {E : Value → Shared → Prop} {env : Env} {elt iter : PySem.Expr} {x : Str} {px : Pos} {scope : Scope} {cl : List (Str × Addr)} {pos : Pos} {Q : Value → Shared → Prop} {use : Option (Value → Sem Unit)} {n : Nat} {eltP : Nat → Value → Prop} {P : Nat → Obj → Prop} {need : List Item → Prop} (N : Nx prog w C it n eltP P need) (hA : A.handled = none) (Inv : Nat → List Value → List Item → Prop) (hneed : ∀ i ys l p q, Inv i ys l → need (p :: q :: l))
    (hcell : ∀ y ∈ scope.names, y.2 ≠ .cell) (hkind : scope.kind = .function) (hx : scope.names.lookup x = some .local) (hz : n ≤ 100000) (hself : ∀ (Q' : Value → Shared → Prop) (E' : Value → Shared → Prop) its' s', S C ((it, P 0) :: its') s' → Q' (.ref it) s' → wpAny (model prog w) A (pyIter (.ref it)) Q' E' s')
    (h0 : Inv 0 [] its) (H : S C ((it, P 0) :: its) s)
    (turn : ∀ i v ys l cf D s₁ (E' : Value → Shared → Prop), i < n → eltP i v → Inv i ys l → ys.length ≤ i → S C ((cf, NsI [(x, some (er v))]) :: (D, ListI ys) :: (it, P (i + 1)) :: l) s₁ →
      ∀ QI : Value → Shared → Prop, (∀ y s₄ l', Inv (i + 1) (ys ++ [er y]) l' → S C ((cf, NsI [(x, some (er v))]) :: (D, ListI ys) :: (it, P (i + 1)) :: l') s₄ → QI y s₄) →
      wpAny (model prog w) A (eval elt (compEnvC scope cl cf env)) QI E' s₁)
    (done : ∀ ys l cf X D s₁, Inv n ys l → ys.length ≤ n → cf ∉ C.tb → S C ((cf, NsI [(x, X)]) :: (D, ListI ys) :: l) s₁ → compPost (model prog w) A E use Q (.ref D) cf (.ok .next) s₁) :
    LcSrc prog w A E env elt iter x px [] scope cl pos use Q (.ref it) s :=
  lc_go N hA Inv hneed hcell hkind hx hz hself h0 H (fun i v ys l cf D s₁ E' hi he hI hy H' => wpAny_tests_nil (by
    rw [if_pos rfl]
    exact turn i v ys l cf D s₁ E' hi he hI hy H' _ fun y s₄ l' hI' H4 => ⟨l', hI', H4⟩)) done
end
end Mc

namespace Mc
section
variable {prog : Program} {w : World} {A : Around} {E : Value → Shared → Prop} {s : Shared}
end
end Mc

namespace Mc
section
variable {prog : Program} {w : World} {A : Around} {E : Value → Shared → Prop} {s : Shared}
/-- str(i) -/
theorem r_str_int {a : Int} {t : Tok} {Q : Value → Shared → Prop} (ha : a.natAbs < 1000000) (h : ∀ u, Q (.str (Str.ofString (toString a)) u) { s with toks := s.toks + 1 }) : wpAny (model prog w) A (call (.type "str") [.int a t]) Q E s := by
  refine P.str_of_int ?_ (h _)
  have h1 : a.natAbs.log2 ≤ a.natAbs := Nat.log2_le_self _
  have h2 : a.natAbs < 2 ^ 1920 := Nat.lt_trans ha (by decide +kernel)
  by_cases h0 : a.natAbs = 0
  · rw [h0]; decide
  · exact (Nat.log2_lt h0).mpr h2
end
end Mc

namespace Mc
/-- the sort's tree, asked by a function -/
noncomputable def kRun (c : Nat → Nat → Bool) {α : Type} : KasT α → α
  | .ret a => a
  | .ask i j k => kRun c (k (c i j))
theorem kRun_bind (c : Nat → Nat → Bool) {α β : Type} (f : α → KasT β) : ∀ t : KasT α, kRun c (t.bind f) = kRun c (f (kRun c t))
  | .ret a => rfl
  | .ask i j k => kRun_bind c f (k (c i j))
section
variable {key : Nat → Int} {n : Nat}
/-- the key that stands at a place -/
noncomputable def at_ (key : Nat → Int) (p : Array Nat) (k : Nat) : Int := key (p.getD k 0)
structure Pm (key : Nat → Int) (n : Nat) (p : Array Nat) : Prop where
  size : p.size = n
  perm : p.toList.Perm (List.range n)
  ne : ∀ i j, i < n → j < n → i ≠ j → at_ key p i ≠ at_ key p j
theorem pm_of {p : Array Nat} (hp : p.toList.Perm (List.range n)) (hk : ∀ i j, i < n → j < n → key i = key j → i = j) : Pm key n p := by
  have hs : p.size = n := by have := hp.length_eq; simpa using this
  refine ⟨hs, hp, fun i j hi hj hij e => hij ?_⟩
  have nd : p.toList.Nodup := hp.nodup_iff.mpr List.nodup_range
  have hi' : i < p.toList.length := by simpa [hs] using hi
  have hj' : j < p.toList.length := by simpa [hs] using hj
  have gi : p.getD i 0 = p.toList[i] := by simp [Array.getD, hs, hi]
  have gj : p.getD j 0 = p.toList[j] := by simp [Array.getD, hs, hj]
  unfold at_ at e
  rw [gi, gj] at e
  have m1 := List.mem_range.mp (hp.mem_iff.mp (List.getElem_mem hi'))
  have m2 := List.mem_range.mp (hp.mem_iff.mp (List.getElem_mem hj'))
  exact (List.getElem_inj nd).mp (hk _ _ m1 m2 e)
theorem at_get {p q : Array Nat} {i j : Nat} (h : p[i]? = q[j]?) : at_ key p i = at_ key q j := by
  unfold at_
  have e : ∀ (r : Array Nat) (k : Nat), r.getD k 0 = (r[k]?).getD 0 := fun r k => by simp
  rw [e, e, h]
noncomputable abbrev lessC (key : Nat → Int) : Nat → Nat → Bool := fun i j => decide (key i < key j)
theorem asc_run {p : Array Nat} (P : Pm key n p) : ∀ f m, 1 ≤ m → m + f ≤ n → (∀ k, 1 ≤ k → k < m → at_ key p (k - 1) < at_ key p k) →
    ∃ r, kRun (lessC key) (kas_asc p f m) = r ∧ m ≤ r ∧ r ≤ m + f ∧ (∀ k, 1 ≤ k → k < r → at_ key p (k - 1) < at_ key p k) ∧ (r < m + f → at_ key p r < at_ key p (r - 1))
  | 0, m, h1, h2, h3 => ⟨m, rfl, Nat.le_refl _, Nat.le_refl _, h3, fun h => absurd h (Nat.lt_irrefl _)⟩
  | f + 1, m, h1, h2, h3 => by
    show ∃ r, kRun (lessC key) (if decide (at_ key p m < at_ key p (m - 1)) = true then .ret m else kas_asc p f (m + 1)) = r ∧ _
    by_cases hc : at_ key p m < at_ key p (m - 1)
    · rw [if_pos (by simpa using hc)]
      exact ⟨m, rfl, Nat.le_refl _, by omega, h3, fun _ => hc⟩
    · rw [if_neg (by simpa using hc)]
      have hne := P.ne (m - 1) m (by omega) (by omega) (by omega)
      obtain ⟨r, e, a, b, c, d⟩ := asc_run P f (m + 1) (by omega) (by omega) fun k k1 k2 => by
        by_cases q : k = m
        · subst q; omega
        · exact h3 k k1 (by omega)
      exact ⟨r, e, by omega, by omega, c, fun h => d (by omega)⟩
theorem desc_run {p : Array Nat} (P : Pm key n p) : ∀ f m, 1 ≤ m → m + f ≤ n → (∀ k, 1 ≤ k → k < m → at_ key p k < at_ key p (k - 1)) →
    ∃ r, kRun (lessC key) (kas_desc f p m 0) = (p, r, 0) ∧ m ≤ r ∧ r ≤ m + f ∧ (∀ k, 1 ≤ k → k < r → at_ key p k < at_ key p (k - 1))
  | 0, m, h1, h2, h3 => ⟨m, rfl, Nat.le_refl _, Nat.le_refl _, h3⟩
  | f + 1, m, h1, h2, h3 => by
    show ∃ r, kRun (lessC key) (if decide (at_ key p m < at_ key p (m - 1)) = true then (if 0 > 0 then kas_desc f (kas_rev p (m - (0 + 1)) m) (m + 1) 0 else kas_desc f p (m + 1) 0)
      else .ask (p.getD (m - 1) 0) (p.getD m 0) fun d => if d = true then .ret (p, m, 0) else kas_desc f p (m + 1) (0 + 1)) = (p, r, 0) ∧ _
    by_cases hc : at_ key p m < at_ key p (m - 1)
    · rw [if_pos (by simpa using hc), if_neg (by omega)]
      obtain ⟨r, e, a, b, c⟩ := desc_run P f (m + 1) (by omega) (by omega) fun k k1 k2 => by
        by_cases q : k = m
        · subst q; exact hc
        · exact h3 k k1 (by omega)
      exact ⟨r, e, by omega, by omega, c⟩
    · rw [if_neg (by simpa using hc)]
      have hne := P.ne (m - 1) m (by omega) (by omega) (by omega)
      have hd : at_ key p (m - 1) < at_ key p m := by omega
      refine ⟨m, ?_, Nat.le_refl _, by omega, h3⟩
      show kRun (lessC key) (if decide (at_ key p (m - 1) < at_ key p m) = true then .ret (p, m, 0) else kas_desc f p (m + 1) (0 + 1)) = _
      rw [if_pos (by simpa using hd)]
      rfl
theorem rev_at {p : Array Nat} {m : Nat} (hm : m ≤ p.size) (k : Nat) : at_ key (kas_rev p 0 m) k = if k < m then at_ key p (m - 1 - k) else at_ key p k := by
  have h := getElem?_mirror_all (xs := p) (i := 0) (j := m) hm k
  unfold kas_rev
  by_cases q : k < m
  · rw [if_pos q]
    rw [if_pos ⟨Nat.zero_le _, q⟩, Nat.zero_add] at h
    exact at_get h
  · rw [if_neg q]
    rw [if_neg (by omega)] at h
    exact at_get h
theorem place_run {p : Array Nat} (P : Pm key n p) {k : Nat} (hk : k < n) : ∀ f l r, l ≤ r → r ≤ k → r - l ≤ f → (∀ i, i < l → at_ key p i < at_ key p k) → (∀ i, r ≤ i → i < k → at_ key p k < at_ key p i) →
    (∀ i j, i < j → j < k → at_ key p i < at_ key p j) →
    ∃ q, kRun (lessC key) (kas_place p k f l r) = q ∧ q ≤ k ∧ (∀ i, i < q → at_ key p i < at_ key p k) ∧ (∀ i, q ≤ i → i < k → at_ key p k < at_ key p i)
  | 0, l, r, h1, h2, h3, h4, h5, h6 => ⟨l, rfl, by omega, h4, fun i a b => h5 i (by omega) b⟩
  | f + 1, l, r, h1, h2, h3, h4, h5, h6 => by
    unfold kas_place
    by_cases hlr : l ≥ r
    · rw [if_pos hlr]
      exact ⟨l, rfl, by omega, h4, fun i a b => h5 i (by omega) b⟩
    · rw [if_neg hlr]
      have hm : l ≤ (l + r) / 2 ∧ (l + r) / 2 < r := by omega
      generalize (l + r) / 2 = m at hm
      show ∃ q, kRun (lessC key) (if decide (at_ key p k < at_ key p m) = true then kas_place p k f l m else kas_place p k f (m + 1) r) = q ∧ _
      by_cases hc : at_ key p k < at_ key p m
      · rw [if_pos (by simpa using hc)]
        exact place_run P hk f l m hm.1 (by omega) (by omega) h4 (fun i a b => by
          by_cases q : i = m
          · subst q; exact hc
          · have := h6 m i (by omega) b; omega) h6
      · rw [if_neg (by simpa using hc)]
        have hne := P.ne m k (by omega) hk (by omega)
        exact place_run P hk f (m + 1) r (by omega) h2 (by omega) (fun i a => by
          by_cases q : i = m
          · subst q; omega
          · have := h6 i m (by omega) (by omega); omega) h5 h6
theorem bin_run (hk : ∀ i j, i < n → j < n → key i = key j → i = j) : ∀ f p k, p.toList.Perm (List.range n) → k + f = n → (∀ i j, i < j → j < k → at_ key p i < at_ key p j) →
    ∃ q, kRun (lessC key) (kas_bin f p k) = q ∧ q.toList.Perm (List.range n) ∧ ∀ i j, i < j → j < n → at_ key q i < at_ key q j
  | 0, p, k, hp, hf, hs => ⟨p, rfl, hp, fun i j a b => hs i j a (by omega)⟩
  | f + 1, p, k, hp, hf, hs => by
    have P := pm_of hp hk
    unfold kas_bin
    rw [kRun_bind]
    obtain ⟨q, e, q1, q2, q3⟩ := place_run P (k := k) (by omega) k 0 k (Nat.zero_le _) (Nat.le_refl _) (by omega) (fun i h => absurd h (Nat.not_lt_zero _)) (fun i a b => absurd b (by omega)) hs
    rw [e]
    have hb : ∀ i, at_ key (bubble p k (k - q)) i = if i = q then at_ key p k else if q < i ∧ i ≤ k then at_ key p (i - 1) else at_ key p i := fun i => by
      have h := getElem?_bubble (xs := p) (src := k) (by rw [P.size]; omega) (k - q) (by omega) i
      have e1 : k - (k - q) = q := by omega
      rw [e1] at h
      by_cases a : i = q
      · rw [if_pos a]; rw [if_pos a] at h; exact at_get h
      · rw [if_neg a]; rw [if_neg a] at h
        by_cases b : q < i ∧ i ≤ k
        · rw [if_pos b]; rw [if_pos b] at h; exact at_get h
        · rw [if_neg b]; rw [if_neg b] at h; exact at_get h
    refine bin_run hk f _ (k + 1) ((Array.perm_iff_toList_perm.mp (bubble_perm p k (k - q))).trans hp) (by omega) fun i j a b => ?_
    rw [hb, hb]
    by_cases iq : i = q
    · rw [if_pos iq]
      by_cases jq : j = q
      · omega
      · rw [if_neg jq, if_pos (by omega)]
        exact q3 _ (by omega) (by omega)
    · rw [if_neg iq]
      by_cases jq : j = q
      · rw [if_pos jq, if_neg (by omega)]
        exact q2 _ (by omega)
      · rw [if_neg jq]
        by_cases i1 : q < i ∧ i ≤ k
        · rw [if_pos i1, if_pos (by omega)]
          exact hs _ _ (by omega) (by omega)
        · rw [if_neg i1]
          by_cases j1 : q < j ∧ j ≤ k
          · rw [if_pos j1]
            have iq2 : i ≤ q := Nat.not_lt.mp fun h => i1 ⟨h, Nat.le_of_lt (Nat.lt_of_lt_of_le a j1.2)⟩
            exact hs _ _ (Nat.lt_of_lt_of_le (Nat.lt_of_le_of_ne iq2 iq) (Nat.le_sub_one_of_lt j1.1)) (Nat.sub_one_lt_of_le (Nat.lt_of_le_of_lt (Nat.zero_le _) j1.1) j1.2)
          · rw [if_neg j1]
            exact hs _ _ a (by omega)
theorem chain_lt {g : Nat → Int} {m : Nat} (h : ∀ k, 1 ≤ k → k < m → g (k - 1) < g k) : ∀ i j, i < j → j < m → g i < g j := by
  intro i j
  induction j with
  | zero => intro h; omega
  | succ j ih =>
    intro a b
    have h1 := h (j + 1) (by omega) b
    by_cases q : i = j
    · subst q; exact h1
    · have := ih (by omega) (by omega)
      simp only [Nat.add_sub_cancel] at h1
      omega
theorem count_run (hn : 2 ≤ n) (hk : ∀ i j, i < n → j < n → key i = key j → i = j) {p : Array Nat} (hp : p.toList.Perm (List.range n)) :
    ∃ m q, kRun (lessC key) (kas_count n p) = (m, q) ∧ q.toList.Perm (List.range n) ∧ 1 ≤ m ∧ m ≤ n ∧ ∀ i j, i < j → j < m → at_ key q i < at_ key q j := by
  have P := pm_of hp hk
  unfold kas_count
  rw [kRun_bind]
  obtain ⟨m, e, a, b, c, d⟩ := asc_run P (n - 1) 1 (Nat.le_refl _) (by omega) fun k k1 k2 => by omega
  rw [e]
  by_cases h1 : m = n
  · rw [if_pos (by simpa using h1)]
    exact ⟨m, p, rfl, hp, a, by omega, chain_lt c⟩
  rw [if_neg (by simpa using h1)]
  by_cases h2 : m > 1
  · rw [if_pos h2]
    have h0 := chain_lt c 0 (m - 1) (by omega) (by omega)
    show ∃ m_1 q, kRun (lessC key) (if decide (at_ key p 0 < at_ key p (m - 1)) = true then .ret (m, p) else kas_descPart m n (kas_rev p 0 m)) = (m_1, q) ∧ _
    rw [if_pos (by simpa using h0)]
    exact ⟨m, p, rfl, hp, a, by omega, chain_lt c⟩
  · rw [if_neg h2]
    have hm1 : m = 1 := by omega
    subst hm1
    have d1 := d (by omega)
    unfold kas_descPart
    rw [kRun_bind]
    obtain ⟨r, e2, a2, b2, c2⟩ := desc_run P (n - (1 + 1)) (1 + 1) (by omega) (by omega) fun k k1 k2 => by
      have : k = 1 := by omega
      subst this; exact d1
    rw [e2]
    dsimp only
    rw [if_neg (Nat.lt_irrefl 0)]
    unfold kas_tail3
    rw [kRun_bind]
    have hr : r ≤ p.size := by rw [P.size]; omega
    have hp2 : (kas_rev p 0 r).toList.Perm (List.range n) := (Array.perm_iff_toList_perm.mp (mirror_perm p 0 r _)).trans hp
    obtain ⟨m2, e3, a3, b3, c3, _⟩ := asc_run (pm_of hp2 hk) (n - r) r (Nat.le_trans (Nat.le_succ 1) a2) (by omega) fun k k1 k2 => by
      obtain ⟨k', rfl⟩ : ∃ k', k = k' + 1 := ⟨k - 1, (Nat.succ_pred_eq_of_pos k1).symm⟩
      have e9 : r - 1 - k' - 1 = r - 1 - (k' + 1) := Nat.sub_sub _ _ _
      show at_ key (kas_rev p 0 r) k' < at_ key (kas_rev p 0 r) (k' + 1)
      rw [rev_at hr, rev_at hr, if_pos (Nat.lt_of_le_of_lt (Nat.le_succ _) k2 : k' < r), if_pos k2]
      have := c2 (r - 1 - k') (Nat.sub_pos_of_lt (Nat.lt_sub_of_add_lt k2)) (Nat.lt_of_le_of_lt (Nat.sub_le _ _) (Nat.sub_lt (Nat.lt_of_lt_of_le Nat.zero_lt_two a2) Nat.one_pos))
      rw [e9] at this
      exact this
    rw [e3]
    exact ⟨m2, _, rfl, hp2, by omega, by omega, chain_lt c3⟩
theorem sort_run (hn : 2 ≤ n) (hk : ∀ i j, i < n → j < n → key i = key j → i = j) :
    ∃ q, kRun (lessC key) (kas_sort n) = q ∧ q.toList.Perm (List.range n) ∧ ∀ i j, i < j → j < n → at_ key q i < at_ key q j := by
  unfold kas_sort
  rw [kRun_bind]
  obtain ⟨m, q, e, hq, h1, h2, h3⟩ := count_run hn hk (p := (List.range n).toArray) (by simp)
  rw [e]
  dsimp only
  by_cases h : m < n
  · rw [if_pos h]
    have e1 : max m 1 = m := by omega
    rw [e1]
    exact bin_run hk (n - m) q m hq (by omega) h3
  · rw [if_neg h]
    exact ⟨q, rfl, hq, fun i j a b => h3 i j a (by omega)⟩
end
end Mc

namespace Mc
/-- all that the tree asks lies below n; what it gives bears P -/
noncomputable def AskP (n : Nat) {α : Type} (P : α → Prop) : KasT α → Prop
  | .ret a => P a
  | .ask i j k => i < n ∧ j < n ∧ ∀ b, AskP n P (k b)
theorem AskP.bind {n : Nat} {α β : Type} {P : α → Prop} {Q : β → Prop} {f : α → KasT β} (hf : ∀ a, P a → AskP n Q (f a)) : ∀ {t : KasT α}, AskP n P t → AskP n Q (t.bind f)
  | .ret a, h => hf a h
  | .ask i j k, h => ⟨h.1, h.2.1, fun b => AskP.bind hf (h.2.2 b)⟩
noncomputable def InN (n : Nat) (p : Array Nat) : Prop := 0 < n ∧ ∀ x ∈ p, x < n
section
variable {n : Nat} {p : Array Nat}
theorem InN.get (h : InN n p) (k : Nat) : p.getD k 0 < n := by
  by_cases q : k < p.size
  · have : p.getD k 0 = p[k] := by simp [Array.getD, q]
    rw [this]; exact h.2 _ (Array.getElem_mem q)
  · have : p.getD k 0 = 0 := by simp [Array.getD, q]
    rw [this]; exact h.1
theorem InN.of_perm {q : Array Nat} (h : InN n p) (e : q.Perm p) : InN n q := ⟨h.1, fun x hx => h.2 x (e.mem_iff.mp hx)⟩
theorem InN.rev (h : InN n p) (i j : Nat) : InN n (kas_rev p i j) := h.of_perm (mirror_perm p i j _)
theorem InN.bub (h : InN n p) (i j : Nat) : InN n (bubble p i j) := h.of_perm (bubble_perm p i j)
theorem ask_asc (h : InN n p) : ∀ f m, AskP n (fun _ => True) (kas_asc p f m)
  | 0, m => trivial
  | f + 1, m => ⟨h.get _, h.get _, fun b => by cases b; exact ask_asc h f (m + 1); trivial⟩
theorem ask_desc : ∀ f (p : Array Nat) m q, InN n p → AskP n (fun r => InN n r.1) (kas_desc f p m q)
  | 0, p, m, q, h => h
  | f + 1, p, m, q, h => by
    refine ⟨h.get _, h.get _, fun b => ?_⟩
    cases b with
    | true =>
      show AskP n _ (if q > 0 then kas_desc f (kas_rev p (m - (q + 1)) m) (m + 1) 0 else kas_desc f p (m + 1) 0)
      split
      · exact ask_desc f _ _ _ (h.rev _ _)
      · exact ask_desc f _ _ _ h
    | false =>
      refine ⟨h.get _, h.get _, fun d => ?_⟩
      cases d with
      | true => exact h
      | false => exact ask_desc f _ _ _ h
theorem ask_tail3 (h : InN n p) (m r : Nat) : AskP n (fun q => InN n q.2) (kas_tail3 m r p) := AskP.bind (P := fun _ => True) (Q := fun q : Nat × Array Nat => InN n q.2) (f := fun x => .ret (x, kas_rev p 0 m)) (fun _ _ => h.rev 0 m) (ask_asc (h.rev 0 m) _ _)
theorem ask_descPart (h : InN n p) (m r : Nat) : AskP n (fun q => InN n q.2) (kas_descPart m r p) := by
  refine (ask_desc _ p _ _ h).bind fun a ha => ?_
  split
  · exact ask_tail3 (InN.rev ha _ _) _ _
  · exact ask_tail3 ha _ _
theorem ask_count (h : InN n p) (r : Nat) : AskP n (fun q => InN n q.2) (kas_count r p) := by
  refine (ask_asc h _ _).bind fun m _ => ?_
  split
  · exact h
  split
  · refine ⟨h.get _, h.get _, fun b => ?_⟩
    cases b with
    | true => exact h
    | false => exact ask_descPart (h.rev _ _) _ _
  · exact ask_descPart h _ _
theorem ask_place (h : InN n p) (k : Nat) : ∀ f l r, AskP n (fun _ => True) (kas_place p k f l r)
  | 0, l, r => trivial
  | f + 1, l, r => by
    unfold kas_place
    split
    · trivial
    · refine ⟨h.get _, h.get _, fun b => ?_⟩
      cases b with
      | true => exact ask_place h k f _ _
      | false => exact ask_place h k f _ _
theorem ask_bin : ∀ f (p : Array Nat) k, InN n p → AskP n (fun _ => True) (kas_bin f p k)
  | 0, p, k, h => trivial
  | f + 1, p, k, h => (ask_place h k k 0 k).bind fun l _ => ask_bin f _ _ (h.bub _ _)
theorem ask_sort (hn : 0 < n) : AskP n (fun _ => True) (kas_sort n) := by
  refine (ask_count (p := (List.range n).toArray) ⟨hn, fun x hx => by simpa using hx⟩ n).bind fun r hr => ?_
  split
  · exact ask_bin _ _ _ hr
  · trivial
end
/-- a tree whose asks are told by a function -/
theorem tree_run {n : Nat} {c : Nat → Nat → Bool} {α : Type} {Pα : α → Prop} {cmp : Nat → Nat → (Bool → Shared → Prop) → Shared → Prop} {I : Shared → Prop} (hc : ∀ i j, i < n → j < n → ∀ (C : Bool → Shared → Prop) s, I s → (∀ s', I s' → C (c i j) s') → cmp i j C s) :
    ∀ (t : KasT α) (s : Shared), AskP n Pα t → I s → t.kasWp cmp (fun a s' => I s' ∧ a = kRun c t) s
  | .ret a, s, _, h => ⟨h, rfl⟩
  | .ask i j k, s, hp, h => hc i j hp.1 hp.2.1 _ s h fun s' h' => tree_run hc (k (c i j)) s' (hp.2.2 _) h'
section
variable {prog : Program} {w : World} {A : Around} {E : Value → Shared → Prop} {C : Cx} {s : Shared}
/-- pairs of a number and a text, laid as tuples -/
noncomputable def pairOf (r : Int × Str) : List Value := [.int r.1 0, .str r.2 0]
theorem TupI.seq {vs : List Value} {o : Obj} (h : TupI vs o) : ∃ us n, o.cls = .type "tuple" ∧ o.data = .seq us n ∧ us.toList.map er = vs := by
  obtain ⟨us, n, rfl, e⟩ := h; exact ⟨us, n, rfl, rfl, e⟩
theorem pair_er {us : Array Value} {r : Int × Str} (h : us.toList.map er = pairOf r) : ∃ t u, us.toList = [.int r.1 t, .str r.2 u] := by
  obtain ⟨l⟩ := us
  unfold pairOf at h
  rcases l with _ | ⟨a, _ | ⟨b, _ | ⟨c, l⟩⟩⟩
  · simp at h
  · simp at h
  · simp only [List.map_cons, List.map_nil, List.cons.injEq, and_true] at h
    obtain ⟨t, rfl⟩ := er_int h.1
    obtain ⟨u, rfl⟩ := er_str h.2
    exact ⟨t, u, rfl⟩
  · simp at h
theorem lt_pair {its : List Item} {Q : Bool → Shared → Prop} {x y : Addr} {a b : Int × Str} (H : S C its s) (hx : (x, TupI (pairOf a)) ∈ its) (hy : (y, TupI (pairOf b)) ∈ its) (hab : a.1 = b.1 → a = b)
    (h : Q (decide (a.1 < b.1)) s) : wpAny (model prog w) A (keyLt' (tuples' true) (.ref x) (.ref y)) Q E s := by
  obtain ⟨ox, hox, zx⟩ := H.get hx
  obtain ⟨oy, hoy, zy⟩ := H.get hy
  obtain ⟨ux, nx, _, dx, ex⟩ := zx.seq
  obtain ⟨uy, ny, _, dy, ey⟩ := zy.seq
  obtain ⟨t1, t2, e1⟩ := pair_er ex
  obtain ⟨t3, t4, e2⟩ := pair_er ey
  refine kat_lt hox dx hoy dy ?_
  rw [e1, e2]
  have s1 : ux.size = 2 := by have := congrArg List.length e1; simpa using this
  have s2 : uy.size = 2 := by have := congrArg List.length e2; simpa using this
  refine kat_cons (wpAny_eqBool_int ?_)
  by_cases q : a.1 = b.1
  · have := hab q; subst this
    rw [beq_self_eq_true]
    refine kat_yes (kat_cons (eqBool_str ?_))
    rw [beq_self_eq_true]
    refine kat_yes (kat_nil ?_)
    rw [s1, s2]
    have e : decide (2 < 2) = decide (a.1 < a.1) := by simp
    rw [e]; exact h
  · have e : (a.1 == b.1) = false := by simpa using q
    rw [e]
    exact kat_no (oneLt_int h)
end
end Mc

namespace Mc
section
variable {prog : Program} {w : World} {A : Around} {E : Value → Shared → Prop} {C : Cx} {s : Shared}
theorem refs_of {us : Array Value} {ts : List Addr} (e : us.toList.map er = ts.map .ref) : us.toList = ts.map .ref := by
  obtain ⟨l⟩ := us
  simp only at e ⊢
  induction l generalizing ts with
  | nil => cases ts with | nil => rfl | cons _ _ => simp at e
  | cons v l ih => cases ts with
    | nil => simp at e
    | cons t ts =>
      simp only [List.map_cons, List.cons.injEq] at e ⊢
      exact ⟨er_ref e.1, ih e.2⟩
theorem kat_of {its : List Item} (H : S C its s) : ∀ (ts : List Addr) (rows : List (Int × Str)), ts.length = rows.length → (∀ p ∈ tupIts ts (rows.map pairOf), p ∈ its) → ∃ fs, KatTups s.heap (ts.map .ref) fs ∧ fs.length = ts.length ∧ ∀ v ∈ fs, ∃ i t, v = .int i t
  | [], [], _, _ => ⟨[], trivial, rfl, fun _ h => nomatch h⟩
  | [], _ :: _, h, _ => by simp at h
  | _ :: _, [], h, _ => by simp at h
  | t :: ts, r :: rows, h, hm => by
    have hm' : ∀ p ∈ (t, TupI (pairOf r)) :: tupIts ts (rows.map pairOf), p ∈ its := hm
    obtain ⟨fs, h1, h2, h3⟩ := kat_of H ts rows (by simpa using h) fun p hp => hm' p (.tail _ hp)
    obtain ⟨o, ho, z⟩ := H.get (hm' _ (.head _))
    obtain ⟨us, n, hc, hd, e⟩ := z.seq
    obtain ⟨k1, k2, e1⟩ := pair_er e
    refine ⟨.int r.1 k1 :: fs, ?_, by simp [h2], fun v hv => ?_⟩
    · exact KatTups.cons ho hc hd (by rw [← Array.getElem?_toList, e1]; rfl) h1
    · rcases List.mem_cons.mp hv with rfl | hv
      · exact ⟨_, _, rfl⟩
      · exact h3 v hv
theorem getD_mem {α : Type} {l : List α} {i : Nat} {d : α} (h : i < l.length) : l.getD i d = l[i] := by simp [h]
theorem zip_getD {α β : Type} {a : List α} {b : List β} (h : a.length = b.length) (da : α) (db : β) : (List.range a.length).map (fun i => (a.getD i da, b.getD i db)) = a.zip b := by
  apply List.ext_getElem
  · simp [h]
  · intro i h1 h2
    have h3 : i < a.length := by simpa using h1
    simp [h3, h ▸ h3]
/-- xs.sort() of a list of pairs, no two with one first -/
theorem r_lsort {Q : Value → Shared → Prop} {itsF : (Obj → Prop) → List Item} {D : Addr} {ts : List Addr} {rows : List (Int × Str)} (H : S C (itsF (ListI (ts.map .ref))) s) (hU : ∀ P P', Up D P P' (itsF P) (itsF P')) (hlen : ts.length = rows.length)
    (htup : ∀ P, ∀ p ∈ tupIts ts (rows.map pairOf), p ∈ itsF P) (hnd : (rows.map (·.1)).Nodup) (hz : rows.length < 64)
    (h : ∀ (ts' : List Addr) (rows' : List (Int × Str)) s', ts'.length = rows'.length → (ts'.zip rows').Perm (ts.zip rows) → (rows'.map (·.1)).Pairwise (· < ·) → S C (itsF (ListI (ts'.map .ref))) s' → Q .none s') :
    wpAny (model prog w) A (call (.builtin "list.sort") [.ref D]) Q E s := by
  obtain ⟨o, ho, us, n0, rfl, e⟩ := H.get (hU _ (fun _ => True)).mem
  have e := refs_of e
  have hus : us = (ts.map Value.ref).toArray := by rw [← e]
  subst hus
  clear e
  have hvl : (ts.map Value.ref).length = rows.length := by rw [List.length_map, hlen]
  refine wpAny_call_entry PyProof.Rows.slot_list_sort ⟨_, ho, rfl⟩ PyProof.Rows.entry_list_sort ?_ (PyProof.Rows.args_list_sort _)
  rw [list_sort_plain]
  refine wpAny_bind (listItems_at ho rfl ?_)
  refine wpAny_bind (listUpdate_at ho rfl ?_ (by rw [List.size_toArray, sizeLine_eq]; omega) (Nat.zero_le _))
  have sb1 := Heap.SameBut.update s.heap D (Obj.mapSeq fun _ => (#[] : Array Value))
  obtain ⟨e1, ho1⟩ : ∃ e1, (s.heap.update D (Obj.mapSeq fun _ => (#[] : Array Value))).get? D = some (seqObj "list" #[] e1) := ⟨_, get?_update_seq ho fun _ => #[]⟩
  have H1 : S C (itsF (fun o => o = seqObj "list" #[] e1)) ⟨s.heap.update D (Obj.mapSeq fun _ => (#[] : Array Value)), s.gens, s.drawn, s.toks, s.os⟩ := H.up (P' := fun o => o = seqObj "list" #[] e1) (hU _ _) sb1 ho1 rfl
  refine wpAny_bind (seqEpoch_at ho1 rfl ?_)
  refine wpAny_bind (wpAny_newTuple ?_ (by show (ts.map Value.ref).length ≤ _; rw [sizeLine_eq]; omega))
  refine wpAny_bind (wpAny_newList ?_ (Nat.zero_le _))
  refine wpAny_holding ?_
  have H2 := (H1.push (o := seqObj "tuple" (ts.map Value.ref).toArray 0) (P := fun _ => True) (d := s.drawn) (t := s.toks) trivial rfl).tail
  have H3 := (H2.push (o := seqObj "list" #[] 0) (P := fun _ => True) (d := s.drawn) (t := s.toks) trivial rfl).tail
  show wpAny (model prog w) A.in1 _ _ _ { s with heap := ((s.heap.update D (Obj.mapSeq fun _ => (#[] : Array Value))).push (seqObj "tuple" (ts.map Value.ref).toArray 0)).push (seqObj "list" #[] 0) }
  dsimp only at H3 ⊢
  generalize (⟨((s.heap.update D (Obj.mapSeq fun _ => (#[] : Array Value))).push (seqObj "tuple" (ts.map Value.ref).toArray 0)).push (seqObj "list" #[] 0), s.gens, s.drawn, s.toks, s.os⟩ : Shared) = s3 at H3 ⊢
  have hu2 : (ts.map Value.ref).toArray.size = rows.length := by rw [List.size_toArray]; exact hvl
  have fin : ∀ (out : List Addr) (s' : Shared), out.length < 64 → S C (itsF (fun o => o = seqObj "list" #[] e1)) s' → (∀ s'', S C (itsF (ListI (out.map .ref))) s'' → Q .none s'') →
      wpAny (model prog w) A.in1 (do
        let touched := (← seqEpoch D) != e1
        Builtin.List.listUpdate (.ref D) fun _ => (out.map Value.ref).toArray
        if touched = true then do
          rule "list.sort.modified"
          raiseError "ValueError" "list modified during sort"
        ret .none) (fun fin s' => ∃ v, fin = Fin.done (Flow.ret v) ∧ Q v s') E s' := by
    intro out s' hl H' k
    obtain ⟨o', ho', rfl⟩ := H'.get (hU (fun o => o = seqObj "list" #[] e1) (fun _ => True)).mem
    refine wpAny_bind (seqEpoch_at ho' rfl ?_)
    refine wpAny_bind (listUpdate_at ho' rfl ?_ (Nat.zero_le _) (by rw [List.size_toArray, List.length_map, sizeLine_eq]; omega))
    simp only [bne_self_eq_false, Bool.false_eq_true, if_false]
    obtain ⟨c2, hc2⟩ : ∃ c2, (s'.heap.update D (Obj.mapSeq fun _ => (out.map Value.ref).toArray)).get? D = some (seqObj "list" (out.map Value.ref).toArray c2) := ⟨_, get?_update_seq ho' fun _ => (out.map Value.ref).toArray⟩
    have er_refs : ∀ l : List Addr, (l.map Value.ref).map er = l.map Value.ref := fun l => by rw [List.map_map]; rfl
    exact wpAny_pure ⟨_, rfl, k _ (H'.up (P' := ListI (out.map .ref)) (hU _ _) (Heap.SameBut.update ..) hc2 ⟨(out.map Value.ref).toArray, c2, rfl, er_refs out⟩)⟩
  by_cases h2 : (ts.map Value.ref).toArray.size < 2
  · rw [if_pos h2, if_pos h2]
    refine wpAny_bind (wpAny_pure ?_)
    rw [StateT.run_pure]
    refine wpAny_bind (wpAny_pure ?_)
    dsimp only
    have e5 : Array.map (fun x => x.snd) (arrOf (SortSt.mk' general' ((ts.map Value.ref).toArray.zip (ts.map Value.ref).toArray) #[] 7 none)) = (ts.map Value.ref).toArray := by
      show Array.map (fun x => x.snd) ((ts.map Value.ref).toArray.zip (ts.map Value.ref).toArray) = _
      apply Array.toList_inj.mp
      rw [Array.toList_map, Array.toList_zip]
      exact List.map_snd_zip (Nat.le_refl _)
    rw [e5]
    have := fin ts s3 (by omega) H3 fun s'' H'' => h ts rows s'' hlen (List.Perm.refl _) (by
      have : rows.length < 2 := by omega
      match rows, this with
      | [], _ => simp
      | [_], _ => simp) H''
    exact this
  · rw [if_neg h2, if_neg h2]
    have hn2 : 2 ≤ rows.length := by omega
    obtain ⟨fs, k1, k2, k3⟩ := kat_of H3 ts rows hlen (htup _)
    refine wpAny_bind (kat_kind (T := .type "int") k1 (by omega) (fun v hv => ?_) rfl ?_)
    · obtain ⟨i, t, rfl⟩ := k3 v hv
      exact .now
    have hkey : ∀ i j, i < rows.length → j < rows.length → (rows.getD i (0, "")).1 = (rows.getD j (0, "")).1 → i = j := fun i j hi hj e => by
      rw [getD_mem hi, getD_mem hj] at e
      have hi' : i < (rows.map (·.1)).length := by simpa using hi
      have hj' : j < (rows.map (·.1)).length := by simpa using hj
      refine (List.getElem_inj hnd (h₀ := hi') (h₁ := hj')).mp ?_
      rw [List.getElem_map, List.getElem_map]; exact e
    obtain ⟨q, hq, hqp, hqs⟩ := sort_run (key := fun i => (rows.getD i (0, "")).1) hn2 hkey
    have tree := tree_run (n := rows.length) (c := lessC fun i => (rows.getD i (0, "")).1) (cmp := kas_ask prog w A.in1 (tuples' true) (ts.map Value.ref)) (I := fun s' => S C (itsF (fun o => o = seqObj "list" #[] e1)) s') (fun i j hi hj C' s' H' hk => by
      unfold kas_ask
      have hti : i < ts.length := by omega
      have htj : j < ts.length := by omega
      have m : ∀ k (hk : k < rows.length), (ts[k]'(by omega), TupI (pairOf rows[k])) ∈ itsF (fun o => o = seqObj "list" #[] e1) := fun k hk => htup _ _ (by
        unfold tupIts
        refine List.mem_map.mpr ⟨(ts[k]'(by omega), pairOf rows[k]), ?_, rfl⟩
        refine List.mem_iff_getElem.mpr ⟨k, by simp; omega, by simp⟩)
      have gi : (ts.map Value.ref).getD i Value.none = .ref ts[i] := by rw [getD_mem (by simpa using hti), List.getElem_map]
      have gj : (ts.map Value.ref).getD j Value.none = .ref ts[j] := by rw [getD_mem (by simpa using htj), List.getElem_map]
      rw [gi, gj]
      refine lt_pair H' (m i hi) (m j hj) (fun e => ?_) ?_
      · have := hkey i j hi hj (by rw [getD_mem hi, getD_mem hj]; exact e)
        subst this; rfl
      · have e9 : decide ((rows[i]).1 < (rows[j]).1) = lessC (fun i => (rows.getD i (0, "")).1) i j := by
          show _ = decide ((rows.getD i (0, "")).1 < (rows.getD j (0, "")).1)
          rw [getD_mem hi, getD_mem hj]
        rw [e9]
        exact hk s' H') (kas_sort rows.length) s3 (ask_sort (by omega)) H3
    rw [hq] at tree
    rw [show (Value.type "int" != Value.type "tuple") = true from rfl]
    rw [← hvl] at tree
    refine wpAny_bind (wpAny_mono (kat_run (ks := ts.map Value.ref) (vs := ts.map Value.ref) (Q := fun st' s' => arrOf st' = q.map (kas_item ((ts.map Value.ref).toArray.zip (ts.map Value.ref).toArray)) ∧ failedOf st' = none ∧ S C (itsF (fun o => o = seqObj "list" #[] e1)) s')
      rfl (by omega) (by omega) (fun p st' s' a1 a2 a3 a4 => ⟨by rw [a2, a4.2], a3, a4.1⟩) tree) ?_ fun _ _ e => e)
    rintro ⟨⟨⟩, st'⟩ s' ⟨har, hf, H'⟩
    dsimp only at har hf H' ⊢
    rw [hf]
    have hout := kat_snds (ks := ts.map Value.ref) (vs := ts.map Value.ref) rfl har
    have eo : (q.toList.map fun i => (ts.map Value.ref).getD i Value.none) = (q.toList.map fun i => ts.getD i 0).map Value.ref := by
      rw [List.map_map]
      refine List.map_congr_left fun i hi => ?_
      have : i < rows.length := List.mem_range.mp (hqp.mem_iff.mp hi)
      show (ts.map Value.ref).getD i Value.none = .ref (ts.getD i 0)
      rw [getD_mem (by rw [hvl]; exact this), getD_mem (by omega), List.getElem_map]
    rw [show Array.map (fun x => x.snd) (arrOf st') = (arrOf st').map (·.2) from rfl, hout, eo]
    have hql : q.toList.length = rows.length := by rw [hqp.length_eq, List.length_range]
    refine fin (q.toList.map fun i => ts.getD i 0) s' (by rw [List.length_map, hql]; exact hz) H' fun s'' H'' => ?_
    refine h _ (q.toList.map fun i => rows.getD i (0, "")) s'' (by simp) ?_ ?_ H''
    · have e1 : (q.toList.map fun i => ts.getD i 0).zip (q.toList.map fun i => rows.getD i (0, "")) = q.toList.map fun i => (ts.getD i 0, rows.getD i (0, "")) := by
        rw [List.zip_map']
      rw [e1, ← zip_getD hlen 0 (0, ""), hlen]
      exact hqp.map _
    · rw [List.map_map, List.pairwise_map]
      refine List.pairwise_iff_getElem.mpr fun i j hi hj hij => ?_
      have hj2 : j < rows.length := by rw [← hql]; exact hj
      have := hqs i j hij hj2
      unfold at_ at this
      have g : ∀ k (hk : k < q.toList.length), q.getD k 0 = q.toList[k] := fun k hk => by
        have : k < q.size := by simpa using hk
        simp [Array.getD, this]
      rw [g i hi, g j hj] at this
      exact this
end
end Mc

namespace Mc
/-- one step of a generator: till its next yield or its end -/
noncomputable def SgEnd (R : Result → Shared → Prop) (Y : Value → GenState → Shared → Prop) (e : End) (s : Shared) : Prop := match e with
  | .ret r => R r s
  | .susp v g l k c p fs => (End.susp v g l k c p fs).quiet = true ∧ Y v (End.susp v g l k c p fs).genState s
noncomputable def Sg (M : Model) (A : Around) (R : Result → Shared → Prop) (Y : Value → GenState → Shared → Prop) (c : Code) (t : Sem Fin) (fs : List Frame) (s : Shared) : Prop :=
  ∀ Γ p, Γ.code = c → Γ.Woken A → ∃ e s', Runs M Γ p t fs s e s' ∧ SgEnd R Y e s'
noncomputable def GoS (M : Model) (A : Around) (R : Result → Shared → Prop) (Y : Value → GenState → Shared → Prop) (gs : GenState) (s : Shared) : Prop := match gs with
  | .fresh c => Sg M A R Y c (M.den c) [] s
  | .suspended k _ c _ fs _ => Sg M A R Y c (k (.send .none)) fs s
  | _ => False
section
variable {M : Model} {A : Around} {R : Result → Shared → Prop} {Y : Value → GenState → Shared → Prop} {c : Code} {fs : List Frame} {s : Shared}
theorem sg_wrap {α : Type} {m : Sem α} {K : α → Sem Fin} {H : Value → Sem Fin} {gd lv}
    (h : wpAny M (A.over c fs) m (fun a s' => Sg M A R Y c (K a) fs s') (fun x s' => Sg M A R Y c (H x) fs s') s) : Sg M A R Y c (m.wrap K H gd lv) fs s := by
  rintro Γ p rfl hΓ
  exact runs_wrap_of_wp K H gd lv m (h (Γ.over fs) p (hΓ.over fs)) (fun a p' s' h' => h' Γ p' rfl hΓ) (fun x p' s' h' => h' Γ p' rfl hΓ)
theorem sg_at {p' : Pos} {k : Unit → Sem Fin} (h : Sg M A R Y c (k ()) fs s) : Sg M A R Y c (.at p' k) fs s :=
  sg_wrap (m := standAt p') (K := k) (H := .raise) (gd := id) (lv := id) (wpAny_standAt h)
theorem sg_point {l : List Value} {k : Unit → Sem Fin} (h : Sg M A R Y c (k ()) fs s) : Sg M A R Y c (.point l k) fs s :=
  sg_wrap (m := point) (K := k) (H := .raise) (gd := id) (lv := fun _ => l) (wpAny_point h)
theorem sg_call {c' : Code} {h g l} {k : Result → Sem Fin} (hc : ∀ p, Sg M A R Y c' (M.den c') (.ret k h g l c p [] :: fs) s) : Sg M A R Y c (.call c' h g l k) fs s := by
  rintro Γ p rfl hΓ
  obtain ⟨e, s', hr, he⟩ := hc p (Γ.goto c') p rfl (hΓ.goto c')
  exact ⟨e, s', runs_call_seg hr, he⟩
theorem sg_leaf {k h g l c₁ p₁ kp} (r : Result) (hk : Sg M A R Y c₁ (k r) fs s) : Sg M A R Y c (leafOf r) (.ret k h g l c₁ p₁ kp :: fs) s := by
  rintro Γ p rfl hΓ
  obtain ⟨e, s', hr, he⟩ := hk (Γ.goto c₁) p₁ rfl (hΓ.goto c₁)
  exact ⟨e, s', Runs.pop r hr, he⟩
theorem sg_again {c' : Code} (hq : c'.quiet = true) (hc : Sg M A R Y c' (M.den c') fs s) : Sg M A R Y c (.pure (.again c')) fs s := by
  rintro Γ p rfl hΓ
  obtain ⟨e, s', hr, he⟩ := hc (Γ.goto c') p rfl (hΓ.goto c')
  exact ⟨e, s', Runs.head (c₁ := c') (fun _ _ x => .again hq x) hr, he⟩
theorem sg_end (r : Result) (h : R r s) : Sg M A R Y c (leafOf r) [] s := by
  rintro Γ p rfl _
  exact ⟨.ret r, s, Runs.leaf r, h⟩
theorem sg_yield {v g l} {k : Resume → Sem Fin} (hfs : splitAtGen fs = none) (hg : g = false) (hfg : fs.any Frame.guarded = false)
    (h : ∀ gs', gs'.bare = true → (∀ A' R' Y' s'', Sg M A' R' Y' c (k (.send .none)) fs s'' → GoS M A' R' Y' gs' s'') → Y v gs' s) : Sg M A R Y c (.yield v g l k) fs s := by
  rintro Γ p rfl _
  have hq : (End.susp v g l k Γ.code p fs).quiet = true := by simp [End.quiet, hg, hfg]
  exact ⟨_, s, Runs.yield' fs hfs, hq, h _ (End.bare_of_quiet hq) fun A' R' Y' s'' hh => hh⟩
theorem sg_mono {R' : Result → Shared → Prop} {Y' : Value → GenState → Shared → Prop} {t : Sem Fin} (h : Sg M A R Y c t fs s) (hR : ∀ r s, R r s → R' r s) (hY : ∀ v g s, Y v g s → Y' v g s) : Sg M A R' Y' c t fs s := by
  rintro Γ p hc hΓ
  obtain ⟨e, s', hr, he⟩ := h Γ p hc hΓ
  refine ⟨e, s', hr, ?_⟩
  cases e with
  | ret x => exact hR _ _ he
  | susp v g₀ l₀ k₀ c₀ p₀ fs₀ => exact ⟨he.1, hY _ _ _ he.2⟩
theorem wpAny_resumeS {E : Value → Shared → Prop} {g : Nat} {gs : GenState} {l : List Value} {α : Type} {k : GenResult → Sem α} {Q : α → Shared → Prop} (hg : s.gens[g]? = some gs)
    (hgo : GoS M A R Y gs (s.setGen g .running))
    (hR : ∀ x s₁, R x s₁ → wpAny M A (k (End.ret x).result) Q E (s₁.setGen g .finished))
    (hY : ∀ v s₁ gs', gs'.bare = true → Y v gs' s₁ → wpAny M A (k (.yielded v)) Q E (s₁.setGen g gs')) :
    wpAny M A (.resume g (.send .none) l k) Q E s := by
  intro Γ p hΓ
  rw [Sem.wp_resume]
  have hB : ∀ c, (Γ.wake c p).Woken A := fun c => hΓ.wake c p
  have fin : ∀ e₁ s₁, SgEnd R Y e₁ s₁ → Sem.wp M Γ (k e₁.result) (fun a _ s' => Q a s') (fun e _ s' => E e s') p (s₁.setGen g e₁.genState) := by
    intro e₁ s₁ he
    cases e₁ with
    | ret x => exact hR x s₁ he Γ p hΓ
    | susp v g₀ l₀ k₀ c₀ p₀ fs₀ => exact hY v s₁ _ (End.bare_of_quiet he.1) he.2 Γ p hΓ
  have hqt : ∀ e₁ s₁, SgEnd R Y e₁ s₁ → e₁.quiet = true := by
    intro e₁ s₁ he
    cases e₁ with
    | ret x => rfl
    | susp v g₀ l₀ k₀ c₀ p₀ fs₀ => exact he.1
  cases gs with
  | fresh c =>
    obtain ⟨e₁, s₁, hr, he⟩ := hgo (Γ.wake c p) p rfl (hB c)
    exact ⟨_, _, by unfold Wakes; rw [hg]; exact ⟨e₁, s₁, hr, hqt e₁ s₁ he, rfl, rfl⟩, fin e₁ s₁ he⟩
  | suspended k₀ l₀ c₀ p₀ fs₀ cl =>
    obtain ⟨e₁, s₁, hr, he⟩ := hgo (Γ.wake c₀ p) p₀ rfl (hB c₀)
    exact ⟨_, _, by unfold Wakes; rw [hg]; exact ⟨e₁, s₁, hr, hqt e₁ s₁ he, rfl, rfl⟩, fin e₁ s₁ he⟩
  | running => exact hgo.elim
  | finished => exact hgo.elim
variable {env : Env} {K : Flow → Sem Fin} {H : Value → Sem Fin} {gd : Bool → Bool} {lv : List Value → List Value}
theorem sg_execs_nil (h : Sg M A R Y c (K .next) fs s) : Sg M A R Y c ((execs [] env).wrap K H gd lv) fs s := h
noncomputable def KN (K : Flow → Sem Fin) (t : Sem Fin) : Flow → Sem Fin | .next => t | f => K f
theorem sg_execs_cons {st : Stmt} {rest : List Stmt} (h : Sg M A R Y c ((exec st env).wrap (KN K ((execs rest env).wrap K H gd lv)) H gd lv) fs s) :
    Sg M A R Y c ((execs (st :: rest) env).wrap K H gd lv) fs s := by
  rw [execs_cons_wrap]
  rw [Sem.wrap_congr (exec st env) gd lv (K' := KN K ((execs rest env).wrap K H gd lv)) (H' := H) (fun f => by cases f <;> rfl) (fun _ => rfl)]
  exact h
theorem sg_If {test : Expr} {body orelse : List Stmt} {pos : Pos} (h : wpAny M (A.over c fs) (isTrue test env (eval test env)) (fun b s' => if b = true then Sg M A R Y c ((execs body env).wrap K H gd lv) fs s' else Sg M A R Y c ((execs orelse env).wrap K H gd lv) fs s')
      (fun x s' => Sg M A R Y c (H x) fs s') s) : Sg M A R Y c ((exec (.If test body orelse pos) env).wrap K H gd lv) fs s := by
  rw [exec_If]
  show Sg M A R Y c (.at pos fun _ => ((isTrue test env (eval test env) >>= fun b => if b = true then execs body env else execs orelse env)).wrap K H gd lv) fs s
  refine sg_at ?_
  rw [Sem.bind_eq_wrap', Sem.wrap_wrap]
  refine sg_wrap (wpAny_mono h (fun b s' hb => ?_) fun _ _ x => x)
  cases b with
  | true => exact hb
  | false => exact hb
theorem sg_Yield {e : Expr} {ypos pos : Pos} (hfs : splitAtGen fs = none) (hgd : gd false = false) (hfg : fs.any Frame.guarded = false)
    (h : wpAny M (A.over c fs) (eval e env) (fun v s' => ∀ gs', gs'.bare = true → (∀ A' R' Y' s'', Sg M A' R' Y' c (K .next) fs s'' → GoS M A' R' Y' gs' s'') → Y v gs' s')
      (fun x s' => Sg M A R Y c (H x) fs s') s) (hco : env.scope.isCoroutine = false) (hi : interactive env = false) :
    Sg M A R Y c ((exec (.Expr (.Yield (some e) ypos) pos) env).wrap K H gd lv) fs s := by
  rw [exec_Expr env _ pos hi rfl]
  show Sg M A R Y c (.at pos fun _ => ((eval e env >>= fun v => (standAt ypos >>= fun _ => yieldOut env v)) >>= fun x => dropValue (.Yield (some e) ypos) pos x).wrap K H gd lv) fs s
  have hy : ∀ v, yieldOut env v = yieldValue v := fun v => by simp only [yieldOut, hco, Bool.false_eq_true, if_false]
  simp only [hy]
  refine sg_at ?_
  rw [Sem.bind_eq_wrap', Sem.bind_eq_wrap', Sem.wrap_wrap, Sem.wrap_wrap]
  refine sg_wrap (wpAny_mono h (fun v s' h' => ?_) fun _ _ x => x)
  exact sg_at (sg_yield hfs hgd hfg h')
/-- what stands behind a loop's code -/
noncomputable def KRet (env : Env) (K : Flow → Sem Fin) (H : Value → Sem Fin) (gd : Bool → Bool) (lv : List Value → List Value) (r : Result) : Sem Fin :=
  ((match r with | .ok f => (.pure f : Sem Flow) | .error e => .raise e).onRaise fun (x : Value) => do
    if (← field x 1) == Value.none then unsupported "frame.own-activation:exception-without-traceback"
    setFlight x env.frame).wrap K H gd lv
theorem sg_For {target iter : Expr} {body orelse : List Stmt} {pos : Pos} (hs : ∀ x, foldedSetIterable iter env x = pure x)
    (h : wpAny M (A.over c fs) (eval iter env) (fun x s₁ => wpAny M (A.over c fs) (pyIter x) (fun it s₂ => ∀ p, Sg M A R Y (.forLoop target it body orelse env) (M.den (.forLoop target it body orelse env))
      (.ret (KRet env K H gd lv) none (gd false) (lv []) c p [] :: fs) s₂) (fun x s' => Sg M A R Y c (H x) fs s') s₁) (fun x s' => Sg M A R Y c (H x) fs s') s) :
    Sg M A R Y c ((exec (.For target iter body orelse pos) env).wrap K H gd lv) fs s := by
  rw [exec_For]
  show Sg M A R Y c (.at pos fun _ => ((eval iter env >>= fun x => foldedSetIterable iter env x >>= fun x => standAt iter.pos >>= fun _ => holding [x] (pyIter x) >>= fun it => runOwn (.forLoop target it body orelse env) env)).wrap K H gd lv) fs s
  refine sg_at ?_
  rw [Sem.bind_eq_wrap', Sem.wrap_wrap]
  refine sg_wrap (wpAny_mono h (fun x s₁ h₁ => ?_) fun _ _ x => x)
  rw [hs]
  show Sg M A R Y c (.at iter.pos fun _ => ((holding [x] (pyIter x) >>= fun it => runOwn (.forLoop target it body orelse env) env)).wrap K H gd lv) fs s₁
  refine sg_at ?_
  rw [Sem.bind_eq_wrap', Sem.wrap_wrap]
  refine sg_wrap (wpAny_holding (wpAny_mono h₁ (fun it s₂ h₂ => ?_) fun _ _ x => x))
  exact sg_call h₂
end
section
variable {prog : Program} {w : World} {A : Around} {R : Result → Shared → Prop} {Y : Value → GenState → Shared → Prop} {fs : List Frame} {s : Shared} {env : Env}
/-- what stands behind a turn of a loop -/
noncomputable def KTurn (c : Code) : Flow → Sem Fin
  | .next | .cont => .pure (.again c)
  | .brk => .pure (.done .next)
  | .ret v => .pure (.done (.ret v))
noncomputable def HTurn (env : Env) (e : Value) : Sem Fin := (do noteFrame e env; theTreesLotGoes e : Sem Unit).wrap (fun _ => .raise e) .raise id id
theorem sg_block {orelse : List Stmt} (h : Sg (model prog w) A R Y (.block orelse env) ((execs orelse env).wrap (fun f => .pure (.done f)) (HTurn env) id id) fs s) :
    Sg (model prog w) A R Y (.block orelse env) ((model prog w).den (.block orelse env)) fs s := by
  show Sg _ A R Y _ (((execs orelse env).onRaise (fun x => do noteFrame x env; theTreesLotGoes x)) >>= fun f => .pure (.done f)) fs s
  rw [Sem.onRaise_eq_wrap, Sem.bind_eq_wrap', Sem.wrap_wrap]
  rw [Sem.wrap_congr (execs orelse env) _ _ (K' := fun f => (.pure (.done f) : Sem Fin)) (H' := HTurn env) (fun f => by rfl)
    (fun e => by first | exact Sem.bind_eq_wrap _ _ | (show Sem.wrap _ _ _ _ ((do noteFrame e env; theTreesLotGoes e : Sem Unit).bind (fun _ => .raise e)) = _; rw [Sem.bind_eq_wrap, Sem.wrap_wrap]; rfl))]
  exact h
theorem sg_forLoop {target : Expr} {it : Value} {body orelse : List Stmt}
    (h : wpAny (model prog w) (A.over (.forLoop target it body orelse env) fs) (pyNext it) (fun r s₁ => match r with
        | none => Sg (model prog w) A R Y (.block orelse env) ((model prog w).den (.block orelse env)) fs s₁
        | some v => wpAny (model prog w) (A.over (.forLoop target it body orelse env) fs) (letOwnedTupleGo target it v) (fun _ s₂ => wpAny (model prog w) (A.over (.forLoop target it body orelse env) fs) (assign target env v) (fun _ s₃ =>
            Sg (model prog w) A R Y (.forLoop target it body orelse env) ((execs body env).wrap (KTurn (.forLoop target it body orelse env)) (HTurn env) id id) fs s₃)
              (fun x s' => Sg (model prog w) A R Y (.forLoop target it body orelse env) (HTurn env x) fs s') s₂) (fun x s' => Sg (model prog w) A R Y (.forLoop target it body orelse env) (HTurn env x) fs s') s₁)
      (fun x s' => Sg (model prog w) A R Y (.forLoop target it body orelse env) (HTurn env x) fs s') s) :
    Sg (model prog w) A R Y (.forLoop target it body orelse env) ((model prog w).den (.forLoop target it body orelse env)) fs s := by
  show Sg _ A R Y _ ((forTurn target it body orelse env).onRaise (fun x => do noteFrame x env; theTreesLotGoes x)) fs s
  have hH : (fun e => (do noteFrame e env; theTreesLotGoes e : Sem Unit).bind (fun _ => (.raise e : Sem Fin))) = HTurn env := funext fun e => Sem.bind_eq_wrap _ _
  rw [Sem.onRaise_eq_wrap, hH]
  unfold forTurn
  show Sg _ A R Y _ (.at target.pos fun _ => ((pyNext it).onRaise (fun _ => standAt { target.pos with line := 0 }) >>= _).wrap _ _ _ _) fs s
  refine sg_at ?_
  rw [Sem.bind_eq_wrap', Sem.wrap_wrap]
  refine sg_wrap (wpAny_onRaise (wpAny_mono h (fun r s₁ h₁ => ?_) fun x s' h' => wpAny_standAt h'))
  cases r with
  | none => exact sg_again rfl h₁
  | some v =>
    show Sg _ A R Y _ ((letOwnedTupleGo target it v >>= _).wrap _ _ _ _) fs s₁
    rw [Sem.bind_eq_wrap', Sem.wrap_wrap]
    refine sg_wrap (wpAny_mono h₁ (fun _ s₂ h₂ => ?_) fun _ _ x => x)
    show Sg _ A R Y _ ((assign target env v >>= _).wrap _ _ _ _) fs s₂
    rw [Sem.bind_eq_wrap', Sem.wrap_wrap]
    refine sg_wrap (wpAny_mono h₂ (fun _ s₃ h₃ => ?_) fun _ _ x => x)
    show Sg _ A R Y _ ((execs body env >>= _).wrap _ _ _ _) fs s₃
    rw [Sem.bind_eq_wrap', Sem.wrap_wrap]
    exact cast (congrArg (fun t => Sg (model prog w) A R Y (.forLoop target it body orelse env) t fs s₃) (Sem.wrap_congr (execs body env) (K := KTurn (.forLoop target it body orelse env)) (H := HTurn env) _ _ (fun f => by cases f <;> rfl) (fun e => rfl))) h₃
theorem sg_func {body : List Stmt}
    (h : Sg (model prog w) A R Y (.func body env) ((execs body env).wrap (fun f => .pure (.done (.ret (match f with | .ret v => v | _ => .none)))) (fun e => (leaving env e).wrap (fun _ => .raise e) .raise id id) id id) fs s) :
    Sg (model prog w) A R Y (.func body env) ((model prog w).den (.func body env)) fs s := by
  show Sg (model prog w) A R Y (.func body env) (.point [] fun _ => ((execs body env).onRaise (leaving env)) >>= _) fs s
  refine sg_point ?_
  rw [Sem.onRaise_eq_wrap, Sem.bind_eq_wrap', Sem.wrap_wrap]
  rw [Sem.wrap_congr (execs body env) _ _ (K' := fun f => .pure (.done (.ret (match f with | .ret v => v | _ => .none))))
    (H' := fun e => (leaving env e).wrap (fun _ => .raise e) .raise id id) (fun f => by cases f <;> rfl)
    (fun e => by rw [Sem.bind_eq_wrap, Sem.wrap_wrap]; rfl)]
  exact h
end
end Mc

namespace Mc
noncomputable def GenI (g : Nat) (o : Obj) : Prop := ∃ nm qn, o = { cls := .type "generator", data := .fields #[.int g 0, nm, qn] }
noncomputable abbrev Cx.wg (C : Cx) (G : Array GenState) : Cx := ⟨C.B, C.tb, C.os, G⟩
noncomputable def BareG (G : Array GenState) : Prop := ∀ x ∈ G, x.bare = true
theorem BareG.set {G : Array GenState} (h : BareG G) {g : Nat} {x : GenState} (hx : x.bare = true) : BareG (G.setIfInBounds g x) := by
  intro y hy
  obtain ⟨i, hi, rfl⟩ := Array.mem_iff_getElem.mp hy
  have hi' : i < G.size := by rw [Array.size_setIfInBounds] at hi; exact hi
  rw [Array.getElem_setIfInBounds hi']
  split
  · exact hx
  · exact h _ (Array.getElem_mem hi')
theorem BareG.push {G : Array GenState} (h : BareG G) {x : GenState} (hx : x.bare = true) : BareG (G.push x) := by
  intro y hy
  rcases Array.mem_push.mp hy with hy | rfl
  · exact h y hy
  · exact hx
/-- a fact that hangs on later generators alone -/
noncomputable def GStb (g : Nat) (P : Array GenState → Prop) : Prop := ∀ G G', (∀ j, g < j → G'[j]? = G[j]?) → P G → P G'
theorem GStb.set {g : Nat} {P : Array GenState → Prop} (h : GStb g P) {G : Array GenState} {x : GenState} (hP : P G) : P (G.setIfInBounds g x) := h G _ (fun j hj => Array.getElem?_setIfInBounds_ne (by omega)) hP
noncomputable def GRel (g : Nat) (G G' : Array GenState) : Prop := G.size ≤ G'.size ∧ (∀ j, j < g → G'[j]? = G[j]?) ∧ (BareG G → BareG G')
theorem GRel.refl {g : Nat} {G : Array GenState} : GRel g G G := ⟨Nat.le_refl _, fun _ _ => rfl, id⟩
theorem GRel.trans {g : Nat} {G G' G'' : Array GenState} (h : GRel g G G') (h' : GRel g G' G'') : GRel g G G'' := ⟨Nat.le_trans h.1 h'.1, fun j hj => (h'.2.1 j hj).trans (h.2.1 j hj), fun x => h'.2.2 (h.2.2 x)⟩
theorem GRel.le {g g' : Nat} {G G' : Array GenState} (h : GRel g' G G') (hg : g ≤ g') : GRel g G G' := ⟨h.1, fun j hj => h.2.1 j (Nat.lt_of_lt_of_le hj hg), h.2.2⟩
theorem GRel.set {g : Nat} {G : Array GenState} {x : GenState} (hx : x.bare = true) : GRel g G (G.setIfInBounds g x) := ⟨by simp, fun j hj => by rw [Array.getElem?_setIfInBounds_ne (by omega)], fun h => h.set hx⟩
theorem GRel.push {g : Nat} {G : Array GenState} {x : GenState} (hg : g ≤ G.size) (hx : x.bare = true) : GRel g G (G.push x) := ⟨by simp, fun j hj => by rw [Array.getElem?_push]; rw [if_neg (by omega)], fun h => h.push hx⟩
section
variable {prog : Program} {w : World} {A : Around} {E : Value → Shared → Prop} {K : Frag} {gl : List (Str × Value)} {C : Cx} {G : Array GenState} {its its' : List Item} {s : Shared} {it : Addr}
theorem Bs.wg (hB : Bs prog w K gl C) (G : Array GenState) : Bs prog w K gl (C.wg G) := ⟨hB.X, hB.tk, hB.names, hB.lim, hB.dig, hB.lo⟩
theorem S.setG (H : S (C.wg G) its s) (g : Nat) (x : GenState) : S (C.wg (G.setIfInBounds g x)) its (s.setGen g x) :=
  ⟨H.keep, H.own, H.new, H.nd, H.tbs, by show s.gens.setIfInBounds g x = _; rw [H.gens], H.os, H.big, H.n1⟩
theorem S.pushG (H : S (C.wg G) its s) (x : GenState) : S (C.wg (G.push x)) its { s with gens := s.gens.push x } :=
  ⟨H.keep, H.own, H.new, H.nd, H.tbs, by show s.gens.push x = _; rw [H.gens], H.os, H.big, H.n1⟩
theorem S.growG (H : S C its s) {h' : Heap} (hk : ∀ b o, s.heap.get? b = some o → h'.get? b = some o) : S C its { s with heap := h' } :=
  ⟨fun b o e q => hk _ _ (H.keep b o e q), fun p hp => by obtain ⟨o, e, q⟩ := H.own p hp; exact ⟨o, hk _ _ e, q⟩, H.new, H.nd, fun a ha => by obtain ⟨o, e⟩ := H.tbs a ha; exact ⟨o, hk _ _ e⟩, H.gens, H.os, H.big, H.n1⟩
theorem GenI.at {g : Nat} (H : S C its s) (hm : (it, GenI g) ∈ its) : s.heap.IsGen it g := by
  obtain ⟨o, ho, nm, qn, rfl⟩ := H.get hm
  exact ⟨_, nm, qn, ho, rfl, rfl, rfl⟩
/-- next of a generator -/
theorem next_gen {g : Nat} {gs : GenState} {P : Shared → Prop} {Y : Value → GenState → Shared → Prop} {Q : Option Value → Shared → Prop} (hh : A.handled = none) (hroom : A.depth < recursionLimit) (hl : s.heap.NoLimit) (hg : s.heap.IsGen it g) (hgs : s.gens[g]? = some gs)
    (hgo : GoS (model prog w) A.in1 (fun r s₁ => r = .ok (.ret .none) ∧ P s₁) Y gs (s.setGen g .running))
    (hY : ∀ v s₁ gs', gs'.bare = true → Y v gs' s₁ → Q (some v) (s₁.setGen g gs'))
    (hP : ∀ s₁ h', P s₁ → (∀ b o, s₁.heap.get? b = some o → h'.get? b = some o) → Q none { s₁.setGen g .finished with heap := h' }) :
    wpAny (model prog w) A (pyNext (.ref it)) Q E s := by
  unfold pyNext
  refine wpAny_bind (wpAny_attempt (wpAny_callSpecial?_slot (name := Str.ofString "__next__") hg.typeIs slot_gen_next (wpAny_call_entry slot_gen_next hg.typeIs entry_gen_next ?_ (args_gen_next _))))
  show wpAny _ _ (Builtin.Generator.genWake (.ref it) (.send .none)) _ _ s
  unfold Builtin.Generator.genWake
  refine wpAny_bind (wpAny_holding (wpAny_genNumber hg (wpAny_bind (wpAny_genState hgs ?_))))
  cases gs with
  | running => exact hgo.elim
  | finished => exact hgo.elim
  | _ =>
    refine wpAny_bind (wpAny_roomToWake hl hroom ?_)
    show wpAny _ _ (.resume g (.send .none) [] _) _ _ s
    refine wpAny_resumeS hgs hgo (fun x s₁ hx => ?_) (fun v s₁ gs' hb hv => ?_)
    · obtain ⟨rfl, hp⟩ := hx
      show wpAny _ _ (newExc (.type "StopIteration") [] >>= _) _ _ _
      refine wpAny_bind ?_
      simp only [newExc, newTuple]
      refine wpAny_bind (wpAny_newObj_type ?_ (by size_fits))
      refine wpAny_bind (m := firstArgMember _ _) (wpAny_of_eq (a := Value.none) (by first | rfl | (simp only [firstArgMember]; rfl)) ?_)
      refine wpAny_newObj_type ?_ (by size_fits)
      simp only [raiseNew]
      refine wpAny_bind (wpAny_bind (wpAny_handled ?_))
      rw [show A.in1.handled = none from hh]
      refine wpAny_throw ?_
      refine wpAny_bind (wpAny_isInstance (T := "StopIteration") (b := true) ⟨_, Heap.get?_push_size _ rfl, rfl⟩ isSubtype_stop ?_)
      exact wpAny_pure (hP s₁ _ hp fun b o hb => Heap.get?_push_of_some _ (Heap.get?_push_of_some _ hb))
    · exact wpAny_pure ⟨v, rfl, wpAny_pure (hY v s₁ gs' hb hv)⟩
/-- a generator that gives these values yet, by what it owns -/
noncomputable def Gd (prog : Program) (w : World) (C : Cx) (g d u : Nat) (need : List Item) : List Value → GenState → (Array GenState → Prop) → List Item → Prop
  | [], gs, P, own => ∀ (A : Around) (fr : List Item) (G : Array GenState) (s : Shared), Rm A d u → P G → g < G.size → (∀ p ∈ need, p ∈ fr) → S (C.wg G) (own ++ fr) s →
      GoS (model prog w) A (fun r s' => r = .ok (.ret .none) ∧ ∃ G', GRel g G G' ∧ S (C.wg G') fr s') (fun _ _ _ => False) gs s
  | X :: vs, gs, P, own => ∀ (A : Around) (fr : List Item) (G : Array GenState) (s : Shared), Rm A d u → P G → g < G.size → (∀ p ∈ need, p ∈ fr) → S (C.wg G) (own ++ fr) s →
      GoS (model prog w) A (fun r s' => r = .ok (.ret .none) ∧ False) (fun v gs' s' => er v = X ∧ ∃ G' P' own', GRel g G G' ∧ P' G' ∧ GStb g P' ∧ Gd prog w C g d u need vs gs' P' own' ∧ S (C.wg G') (own' ++ fr) s') gs s
structure GSt (prog : Program) (w : World) (C : Cx) (it : Addr) (g d u : Nat) (need : List Item) (vs : List Value) (G : Array GenState) (its : List Item) : Prop where
  ex : ∃ gs P own, G[g]? = some gs ∧ P G ∧ GStb g P ∧ Gd prog w C g d u need vs gs P own ∧ its = (it, GenI g) :: own
theorem GSt.mem {g d u : Nat} {need : List Item} {vs : List Value} (h : GSt prog w C it g d u need vs G its) : (it, GenI g) ∈ its := by
  obtain ⟨_, _, _, _, _, _, _, rfl⟩ := h.ex
  exact .head _
theorem GSt.of {g d u : Nat} {need : List Item} {vs : List Value} (h : GSt prog w C it g d u need vs G its) {G' : Array GenState} (hj : ∀ j, g ≤ j → G'[j]? = G[j]?) : GSt prog w C it g d u need vs G' its := by
  obtain ⟨gs, P, own, h1, h2, h3, h4, h5⟩ := h.ex
  exact ⟨gs, P, own, by rw [hj g (Nat.le_refl _)]; exact h1, h3 G G' (fun j h => hj j (Nat.le_of_lt h)) h2, h3, h4, h5⟩
theorem GSt.next {g d u : Nat} {need : List Item} {X : Value} {vs : List Value} {fr : List Item} {Q : Option Value → Shared → Prop} (hB : Bs prog w K gl C) (hA : Rm A d (u + 1)) (h : GSt prog w C it g d u need (X :: vs) G its) (hn : ∀ p ∈ need, p ∈ fr) (H : S (C.wg G) (its ++ fr) s)
    (hQ : ∀ v G' its' s', er v = X → GRel g G G' → GSt prog w C it g d u need vs G' its' → S (C.wg G') (its' ++ fr) s' → Q (some v) s') : wpAny (model prog w) A (pyNext (.ref it)) Q E s := by
  obtain ⟨gs, P, own, hgs, hP, hst, hgd, rfl⟩ := h.ex
  obtain ⟨hlt, -⟩ := Array.getElem?_eq_some_iff.mp hgs
  have H2 : S (C.wg (G.setIfInBounds g .running)) (own ++ ((it, GenI g) :: fr)) (s.setGen g .running) := (H.setG g .running).perm List.perm_middle.symm
  refine next_gen (P := fun _ => False) hA.hd hA.room ((hB.wg G).L H) (GenI.at H (.head _)) (by rw [H.gens]; exact hgs) (hgd A.in1 ((it, GenI g) :: fr) _ _ hA.in1 (hst.set hP) (by simpa using hlt) (fun p hp => .tail _ (hn p hp)) H2) (fun v s₁ gs' hb hv => ?_) fun s₁ h' hx => hx.elim
  obtain ⟨hev, G', P', own', hr, hP', hst', hgd', H3⟩ := hv
  have hlt' : g < G'.size := by have := hr.1; simp at this; omega
  refine hQ v _ ((it, GenI g) :: own') _ hev (((GRel.set rfl).trans hr).trans (GRel.set (x := gs') hb)) ⟨gs', P', own', by rw [Array.getElem?_setIfInBounds_self_of_lt hlt'], hst'.set hP', hst', hgd', rfl⟩ ((H3.setG g gs').perm List.perm_middle)
theorem GSt.stop {g d u : Nat} {need : List Item} {fr : List Item} {Q : Option Value → Shared → Prop} (hB : Bs prog w K gl C) (hA : Rm A d (u + 1)) (h : GSt prog w C it g d u need [] G its) (hn : ∀ p ∈ need, p ∈ fr) (H : S (C.wg G) (its ++ fr) s)
    (hQ : ∀ G' s', GRel g G G' → S (C.wg G') fr s' → Q none s') : wpAny (model prog w) A (pyNext (.ref it)) Q E s := by
  obtain ⟨gs, P, own, hgs, hP, hst, hgd, rfl⟩ := h.ex
  obtain ⟨hlt, -⟩ := Array.getElem?_eq_some_iff.mp hgs
  have H2 : S (C.wg (G.setIfInBounds g .running)) (own ++ ((it, GenI g) :: fr)) (s.setGen g .running) := (H.setG g .running).perm List.perm_middle.symm
  refine next_gen hA.hd hA.room ((hB.wg G).L H) (GenI.at H (.head _)) (by rw [H.gens]; exact hgs) (hgd A.in1 ((it, GenI g) :: fr) _ _ hA.in1 (hst.set hP) (by simpa using hlt) (fun p hp => .tail _ (hn p hp)) H2) (fun v s₁ gs' hb hv => hv.elim) fun s₁ h' hx hk => ?_
  obtain ⟨G', hr, H3⟩ := hx
  exact hQ _ _ (((GRel.set rfl).trans hr).trans (GRel.set (x := .finished) rfl)) (S.growG (h' := h') (H3.tail.setG g .finished) hk)
/-- the loop that fills a new list from a generator -/
theorem ext_loopG {g d u : Nat} {need : List Item} (hB : Bs prog w K gl C) (hA : Rm A d (u + 2)) (D : Addr) (res : Value) {R : Result → Shared → Prop} {fr : List Item} (hn : ∀ p ∈ need, p ∈ fr) (all : List Value) (hz : all.length ≤ 100000) (G0 : Array GenState)
    (hR : ∀ G' s', GRel g G0 G' → S (C.wg G') ((D, ListI all) :: fr) s' → R (.ok (.ret res)) s') :
    ∀ (vs acc : List Value) (G : Array GenState) (s : Shared) (its : List Item), all = acc ++ vs → GRel g G0 G → GSt prog w C it g d u need vs G its → S (C.wg G) (its ++ ((D, ListI acc) :: fr)) s →
      codeAny (model prog w) A (.builtin "list.extend.loop" ⟨[.ref D, .ref it, res], []⟩) R s := by
  intro vs
  induction vs with
  | nil =>
    intro acc G s its he hr hst H
    refine codeAny_builtin F.entry_extend_loop ?_
    rw [Around.under_plainId F.plain_extend_loop _]
    show wpAny _ A.in1 (pyNext (.ref it) >>= _) _ _ s
    refine wpAny_bind (hst.stop hB (Rm.in1 hA) (fun p hp => .tail _ (hn p hp)) H fun G' s' hr' H' => ?_)
    rw [List.append_nil] at he
    exact wpAny_pure (hR G' s' (hr.trans hr') (he ▸ H'))
  | cons X vs ih =>
    intro acc G s its he hr hst H
    refine codeAny_builtin F.entry_extend_loop ?_
    rw [Around.under_plainId F.plain_extend_loop _]
    show wpAny _ A.in1 (pyNext (.ref it) >>= _) _ _ s
    refine wpAny_bind (hst.next hB (Rm.in1 hA) (fun p hp => .tail _ (hn p hp)) H fun v G' its' s' hv hr' hst' H' => ?_)
    show wpAny _ A.in1 (updateSeq D (·.push v) >>= _) _ _ _
    refine wpAny_bind ?_
    obtain ⟨o, ho, us, m, rfl, eu⟩ := H'.get (a := D) (P := ListI acc) (List.mem_append_right _ (.head _))
    have hlen := len_er eu
    have hal : acc.length + (vs.length + 1) = all.length := by rw [he, List.length_append, List.length_cons]
    refine wpAny_updateSeq ho rfl (wpAny_pure ⟨plainId_quiet F.plain_extend_loop _, ih (acc ++ [er v]) G' _ its' (by rw [he, hv]; simp) (hr.trans hr') hst' ?_⟩) (by rw [sizeLine_eq]; omega) (by show (us.push v).size ≤ sizeLine + 1; rw [Array.size_push, sizeLine_eq]; omega)
    have hsb : Heap.SameBut D s'.heap (s'.heap.update D (Obj.mapSeq (·.push v))) := Heap.SameBut.update ..
    refine S.up (d := s'.drawn) H' (Up.appR .head) hsb (Heap.get?_update_self _ ho rfl) ⟨us.push v, _, rfl, ?_⟩
    rw [Array.toList_push, List.map_append, eu]; rfl
/-- list(generator) -/
theorem r_list_gen {g d u : Nat} {need : List Item} {vs : List Value} {fr : List Item} {Q : Value → Shared → Prop} (hB : Bs prog w K gl C) (hA : Rm A d (u + 4)) (hn : ∀ p ∈ need, p ∈ fr) (hz : vs.length ≤ 100000)
    (hst : GSt prog w C it g d u need vs G its) (H : S (C.wg G) (its ++ fr) s)
    (h : ∀ D G' s', GRel g G G' → S (C.wg G') ((D, ListI vs) :: fr) s' → Q (.ref D) s') :
    wpAny (model prog w) A (call (.type "list") [.ref it]) Q E s := by
  have hmem := hst.mem
  have hlt' : it < s.heap.objs.size := H.lt (List.mem_append_left _ hmem)
  refine callType_codes (Q₁ := fun obj s₁ => obj = .ref s.heap.objs.size ∧ s₁ = { s with heap := s.heap.push { cls := .type "list", data := .seq #[] } }) F.called_list (F.typeCall_list_1 _) F.entry_list_init
    (code_list_new _ ⟨rfl, rfl⟩) fun obj s₁ h₁ => ?_
  obtain ⟨rfl, rfl⟩ := h₁
  have hS : (s.heap.push { cls := .type "list", data := .seq #[] }).get? s.heap.objs.size = some { cls := .type "list", data := .seq #[] } := Heap.get?_push_size _ rfl
  have H1 : S (C.wg G) (its ++ ((s.heap.objs.size, ListI []) :: fr)) { s with heap := s.heap.push { cls := .type "list", data := .seq #[] } } :=
    (H.push (o := { cls := .type "list", data := .seq #[] }) (P := ListI []) (d := s.drawn) (t := s.toks) ⟨#[], 0, rfl, rfl⟩ rfl).perm List.perm_middle.symm
  generalize hD : s.heap.objs.size = D at *
  refine ⟨⟨_, hS, rfl⟩, F.args_list_init_2 _ _, ?_⟩
  have hDI : D ≠ it := Nat.ne_of_gt hlt'
  have hty : ∀ {fr : List Item} {s : Shared}, S (C.wg G) (its ++ fr) s → s.TypeIs (.ref it) "generator" := fun H => (GenI.at H (List.mem_append_left _ hmem)).typeIs
  show wpAny _ A.in1.in1 (do let old ← Builtin.List.listItems (.ref D); Builtin.List.listUpdate (.ref D) (fun _ => #[]); letGo old.toList.reverse; Builtin.List.listExtendWith (.ref D) (.ref it) .none) _ _ _
  refine wpAny_bind ?_
  unfold Builtin.List.listItems
  refine wpAny_bind (wpAny_seqItems hS rfl (wpAny_pure ?_))
  show wpAny _ A.in1.in1 (updateSeq D (fun _ => #[]) >>= fun _ => letGo (#[] : Array Value).toList.reverse >>= fun _ => Builtin.List.listExtendWith (.ref D) (.ref it) .none) _ _ _
  refine wpAny_bind (wpAny_updateSeq hS rfl ?_)
  have hS₂ := Heap.get?_update_self (Obj.mapSeq (fun _ => (#[] : Array Value))) hS rfl
  have H2 := S.up (d := s.drawn) (t := s.toks) H1 (P' := ListI []) (Up.appR .head) (Heap.SameBut.update ..) hS₂ ⟨#[], _, rfl, rfl⟩
  refine wpAny_bind (wpAny_letGo ?_)
  unfold Builtin.List.listExtendWith
  refine wpAny_bind (wpAny_typeOf (hty H2) ?_)
  have h1 : Builtin.List.listSameRef (.ref D) (.ref it) = false := by simp [Builtin.List.listSameRef, hDI]
  have h2 : (Value.type "generator" == Value.type "list") = false := by decide
  have h3 : (Value.type "generator" == Value.type "tuple") = false := by decide
  simp only [h1, h2, h3, Bool.or_false, Bool.false_eq_true, if_false]
  refine wpAny_bind (wpAny_pyIter_gen (GenI.at H2 (List.mem_append_left _ hmem)) ?_)
  refine wpAny_bind (wpAny_holding ?_)
  unfold Builtin.List.listLengthHint
  refine wpAny_bind (wpAny_specialOf (hty H2) F.gen_no_len ?_)
  show wpAny _ A.in1.in1 (specialOf (Value.ref it) (Str.ofString "__length_hint__") >>= _) _ _ _
  refine wpAny_bind (wpAny_specialOf (hty H2) F.gen_no_hint ?_)
  refine wpAny_pure ?_
  show wpAny _ A.in1.in1 (rule "list.extend.makes-room" >>= fun _ => Builtin.List.listTouch (.ref D) >>= fun _ => again (.builtin "list.extend.loop" ⟨[.ref D, .ref it, .none], []⟩)) _ _ _
  refine wpAny_bind (wpAny_rule ?_)
  refine wpAny_bind ?_
  show wpAny _ A.in1.in1 (updateSeq D (·.push .none) >>= fun _ => updateSeq D (·.pop)) _ _ _
  refine wpAny_bind (wpAny_updateSeq hS₂ rfl ?_)
  have hS₃ := Heap.get?_update_self (Obj.mapSeq (·.push Value.none)) hS₂ rfl
  refine wpAny_updateSeq (hz := by seq_fits) hS₃ rfl ?_
  have hS₄ := Heap.get?_update_self (Obj.mapSeq (·.pop)) hS₃ rfl
  have H3 := S.up (d := s.drawn) (t := s.toks) H2 (P' := fun _ => True) (Up.appR .head) (Heap.SameBut.update ..) hS₃ trivial
  have H4 := S.up (d := s.drawn) (t := s.toks) H3 (P' := ListI []) (Up.appR .head) (Heap.SameBut.update ..) hS₄ ⟨#[], _, rfl, rfl⟩
  refine wpAny_pure ⟨plainId_quiet F.plain_extend_loop _, ?_⟩
  exact ext_loopG (A := A.in1) hB (Rm.in1 (hA.le (Nat.le_refl _) (by omega))) D .none hn vs hz G (fun G' s' q1 q2 => ⟨rfl, h D G' s' q1 q2⟩) vs [] G _ its rfl GRel.refl hst H4
/-- a call of a function that yields -/
theorem call_genL {fd : FuncData} {o : Obj} {body : List Stmt} {args : Args} {binds : List (Str × Value)} {loc : List (Str × Option Value)} {R : Result → Shared → Prop} {f : Addr}
    (H : S (C.wg G) its s) (hB : Bs prog w K gl C) (ho : s.heap.get? f = some o) (hd : o.data = .func fd) (hcd : s.heap.CodeRec fd.code fd.qualname) (hbody : fd.body = .stmts body) (hroom : A.depth < recursionLimit)
    (hbind : BindsTo s fd args binds) (hcell : (fd.scope.names.all fun y => y.2 != .cell) = true) (hloc : (binds.all fun y => decide (fd.scope.names.lookup y.1 = some .local)) = true)
    (hnd : nodupB (loc.map (·.1)) = true) (hl : loc = loc.map fun p => (p.1, (binds.reverse.lookup p.1).map er))
    (h : ∀ (L D : Addr) (s' : Shared), S (C.wg (G.push (.fresh (.func body (callEnv fd L f))))) ((D, GenI G.size) :: (L, NsI loc) :: its) s' → R (.ok (.ret (.ref D))) s')
    (hco : fd.scope.isCoroutine = false := by rfl) (hgen : fd.scope.isGenerator = true := by rfl) (hk : fd.scope.kind = .function := by rfl) :
    codeAny (model prog w) A (.call (.ref f) args) R s := by
  refine codeAny_call_generator hroom ho hd hco hgen hbody hcd (hbind _ _ _ _ (wpAny_newFunctionEnv (noCell hcell) (locs hloc) (fun h₁ hns hsb => ?_) hk))
  obtain ⟨oL, es, ep, hoL, hdL, hsk, hf⟩ := id hns
  have H1 : S (C.wg G) ((s.heap.objs.size, fun _ => True) :: its) ⟨s.heap.push { cls := Value.type "frame", data := Data.dict #[] }, s.gens, s.drawn, s.toks, s.os⟩ := H.push (P := fun _ => True) trivial rfl
  have H2 : S (C.wg G) ((s.heap.objs.size, NsI loc) :: its) ⟨h₁, s.gens, s.drawn, s.toks + binds.length, s.os⟩ := by
    refine S.up (d := s.drawn) (t := s.toks + binds.length) H1 (P := fun _ => True) (P' := NsI loc) .head hsb hoL ⟨es, ep, hdL, hsk, nodupB_iff hnd, fun p hp => ?_⟩
    rw [hf]
    rw [hl] at hp
    obtain ⟨q, _, rfl⟩ := List.mem_map.mp hp
    rfl
  have hlim : h₁.NoLimit := (hB.wg G).L H2
  refine ⟨hlim, ?_⟩
  have hg := H.gens
  exact h _ _ _ ((H2.pushG (.fresh (.func body (callEnv fd s.heap.objs.size f)))).push (P := GenI G.size) (d := s.drawn) (t := s.toks + binds.length + 1 + 1) ⟨_, _, by rw [hg]⟩ rfl)
end
end Mc

namespace Mc
section
variable {prog : Program} {w : World} {A : Around} {E : Value → Shared → Prop} {K : Frag} {gl : List (Str × Value)} {C : Cx} {G : Array GenState} {its its' : List Item} {s : Shared} {it : Addr}
/-- the end of a generator's step, and its yield -/
noncomputable def GRe (C : Cx) (g : Nat) (vs : List Value) (fr : List Item) (G : Array GenState) : Result → Shared → Prop := match vs with
  | [] => fun r s' => r = .ok (.ret .none) ∧ ∃ G', GRel g G G' ∧ S (C.wg G') fr s'
  | _ :: _ => fun r s' => r = .ok (.ret .none) ∧ False
noncomputable def GYe (prog : Program) (w : World) (C : Cx) (g d u : Nat) (need : List Item) (vs : List Value) (fr : List Item) (G : Array GenState) : Value → GenState → Shared → Prop := match vs with
  | [] => fun _ _ _ => False
  | X :: vs => fun v gs' s' => er v = X ∧ ∃ G' P' own', GRel g G G' ∧ P' G' ∧ GStb g P' ∧ Gd prog w C g d u need vs gs' P' own' ∧ S (C.wg G') (own' ++ fr) s'
theorem Gd_iff {g d u : Nat} {need : List Item} {vs : List Value} {gs : GenState} {P : Array GenState → Prop} {own : List Item} : Gd prog w C g d u need vs gs P own ↔
    ∀ (A : Around) (fr : List Item) (G : Array GenState) (s : Shared), Rm A d u → P G → g < G.size → (∀ p ∈ need, p ∈ fr) → S (C.wg G) (own ++ fr) s → GoS (model prog w) A (GRe C g vs fr G) (GYe prog w C g d u need vs fr G) gs s := by
  cases vs <;> rfl
theorem GoS.mono {M : Model} {R R' : Result → Shared → Prop} {Y Y' : Value → GenState → Shared → Prop} {gs : GenState} (h : GoS M A R Y gs s) (hR : ∀ r s, R r s → R' r s) (hY : ∀ v g s, Y v g s → Y' v g s) : GoS M A R' Y' gs s := by
  cases gs with
  | fresh c => exact sg_mono h hR hY
  | suspended k l c p fs cl => exact sg_mono h hR hY
  | running => exact h.elim
  | finished => exact h.elim
theorem Gd.need {g d u : Nat} {need need' : List Item} (hs : ∀ p ∈ need, p ∈ need') : ∀ {vs : List Value} {gs : GenState} {P : Array GenState → Prop} {own : List Item}, Gd prog w C g d u need vs gs P own → Gd prog w C g d u need' vs gs P own := by
  intro vs
  induction vs with
  | nil => exact fun h A fr G s hA hP hg hn H => h A fr G s hA hP hg (fun p hp => hn p (hs p hp)) H
  | cons X vs ih =>
    exact fun h A fr G s hA hP hg hn H => GoS.mono (h A fr G s hA hP hg (fun p hp => hn p (hs p hp)) H) (fun _ _ h => h) fun v gs' s' ⟨e, G', P', own', h1, h2, h3, h4, h5⟩ => ⟨e, G', P', own', h1, h2, h3, ih h4, h5⟩
theorem GSt.need {g d u : Nat} {need need' : List Item} {vs : List Value} (h : GSt prog w C it g d u need vs G its) (hs : ∀ p ∈ need, p ∈ need') : GSt prog w C it g d u need' vs G its := by
  obtain ⟨gs, P, own, h1, h2, h3, h4, h5⟩ := h.ex
  exact ⟨gs, P, own, h1, h2, h3, Gd.need hs h4, h5⟩
/-- from a later state of the generators to an earlier one -/
theorem Sg.back {g d u : Nat} {need : List Item} {vs : List Value} {fr : List Item} {G0 : Array GenState} {c : Code} {t : Sem Fin} {fs : List Frame} (h : Sg (model prog w) A (GRe C g vs fr G) (GYe prog w C g d u need vs fr G) c t fs s) (hr : GRel g G0 G) :
    Sg (model prog w) A (GRe C g vs fr G0) (GYe prog w C g d u need vs fr G0) c t fs s := by
  refine sg_mono h (fun r s h => ?_) fun v gs s h => ?_
  · cases vs with
    | nil => obtain ⟨e, G', h1, h2⟩ := h; exact ⟨e, G', hr.trans h1, h2⟩
    | cons X vs => exact h
  · cases vs with
    | nil => exact h
    | cons X vs => obtain ⟨e, G', P', own', h1, h2⟩ := h; exact ⟨e, G', P', own', hr.trans h1, h2⟩
theorem GRe.fin {g : Nat} {fr : List Item} {G' : Array GenState} (hr : GRel g G G') (H : S (C.wg G') fr s) : GRe C g [] fr G (.ok (.ret .none)) s := ⟨rfl, G', hr, H⟩
theorem GYe.mk {g d u : Nat} {need : List Item} {vs : List Value} {fr : List Item} {X v : Value} {gs : GenState} {G' : Array GenState} {P' : Array GenState → Prop} {own' : List Item} (hv : er v = X) (hr : GRel g G G') (hP : P' G') (hst : GStb g P')
    (hd : Gd prog w C g d u need vs gs P' own') (H : S (C.wg G') (own' ++ fr) s) : GYe prog w C g d u need (X :: vs) fr G v gs s := ⟨hv, G', P', own', hr, hP, hst, hd, H⟩
/-- statements without a yield -/
theorem execs_append_wrap {K : Flow → Sem Fin} {H : Value → Sem Fin} {gd : Bool → Bool} {lv : List Value → List Value} {env : Env} (pre rest : List Stmt) : (execs (pre ++ rest) env).wrap K H gd lv = (execs pre env).wrap (KN K ((execs rest env).wrap K H gd lv)) H gd lv := by
  induction pre with
  | nil => rfl
  | cons st pre ih =>
    rw [List.cons_append, execs_cons_wrap, execs_cons_wrap]
    refine Sem.wrap_congr _ _ _ (fun f => ?_) fun _ => rfl
    cases f with
    | next => exact ih
    | cont => rfl
    | brk => rfl
    | ret v => rfl
theorem sg_pre {M : Model} {R : Result → Shared → Prop} {Y : Value → GenState → Shared → Prop} {c : Code} {fs : List Frame} {K : Flow → Sem Fin} {H : Value → Sem Fin} {gd : Bool → Bool} {lv : List Value → List Value} {env : Env} (body : List Stmt) (k : Nat)
    (h : ∀ A1 E1, A1 = A.over c fs → wpAny M A1 (execs (body.take k) env) (fun f s' => Sg M A R Y c (KN K ((execs (body.drop k) env).wrap K H gd lv) f) fs s') E1 s) : Sg M A R Y c ((execs body env).wrap K H gd lv) fs s := by
  have e : (execs body env).wrap K H gd lv = (execs (body.take k) env).wrap (KN K ((execs (body.drop k) env).wrap K H gd lv)) H gd lv := by
    rw [← execs_append_wrap, List.take_append_drop]
  rw [e]
  exact sg_wrap (h _ _ rfl)
/-- the whole rest -/
theorem sg_all {M : Model} {R : Result → Shared → Prop} {Y : Value → GenState → Shared → Prop} {c : Code} {fs : List Frame} {K : Flow → Sem Fin} {H : Value → Sem Fin} {gd : Bool → Bool} {lv : List Value → List Value} {env : Env} (body : List Stmt)
    (h : ∀ A1 E1, A1 = A.over c fs → wpAny M A1 (execs body env) (fun f s' => Sg M A R Y c (K f) fs s') E1 s) : Sg M A R Y c ((execs body env).wrap K H gd lv) fs s := sg_wrap (h _ _ rfl)
theorem KN_self (K : Flow → Sem Fin) : KN K (K .next) = K := funext fun f => by cases f <;> rfl
theorem sg_execs1 {M : Model} {R : Result → Shared → Prop} {Y : Value → GenState → Shared → Prop} {c : Code} {fs : List Frame} {K : Flow → Sem Fin} {H : Value → Sem Fin} {gd : Bool → Bool} {lv : List Value → List Value} {env : Env} {st : Stmt}
    (h : Sg M A R Y c ((exec st env).wrap K H gd lv) fs s) : Sg M A R Y c ((execs [st] env).wrap K H gd lv) fs s := by
  have e : (execs [] env).wrap K H gd lv = K .next := rfl
  refine sg_execs_cons ?_
  rw [e, KN_self]
  exact h
/-- frames that only give back -/
noncomputable def retFrames (fs : List Frame) : Prop := ∀ f ∈ fs, ∃ k c p, f = .ret k none false [] c p [] ∧ (c.cUnits ≤ 3 ∧ c.weight ≤ 1)
theorem over_rm {c : Code} {fs : List Frame} (hf : retFrames fs) (hc : c.cUnits ≤ 3 ∧ c.weight ≤ 1) {d u : Nat} (hA : Rm A (d + fs.length + 1) (u + 3 * fs.length + 3)) : Rm (A.over c fs) d u := by
  have h1 : ∀ (fs : List Frame), retFrames fs → (marksOver fs (none, none)) = (none, none) ∧ frameCount (fs.map Frame.where_) ≤ fs.length ∧ unitsOf (fs.map Frame.where_) ≤ 3 * fs.length := by
    intro fs
    induction fs with
    | nil => intro _; exact ⟨rfl, Nat.le_refl _, Nat.le_refl _⟩
    | cons f fs ih =>
      intro h
      obtain ⟨i1, i2, i3⟩ := ih fun f hf => h f (.tail _ hf)
      obtain ⟨k, c, p, rfl, h1, h2⟩ := h f (.head _)
      refine ⟨?_, ?_, ?_⟩
      · show Frame.marks (.ret k none false [] c p []) (marksOver fs (none, none)) = _
        rw [i1]; rfl
      · rw [List.map_cons, List.length_cons]
        show frameCount ((c, p) :: _) ≤ _
        rw [frameCount_cons]; omega
      · rw [List.map_cons, List.length_cons]
        show unitsOf ((c, p) :: _) ≤ _
        rw [unitsOf_cons]; omega
  obtain ⟨i1, i2, i3⟩ := h1 fs hf
  refine ⟨?_, ?_, ?_⟩
  · show (marksOver fs (A.handled, A.handled)).1 = none
    rw [hA.hd, i1]
  · have := hA.dep
    show A.depth + frameCount (fs.map Frame.where_) + c.weight + d < recursionLimit
    omega
  · have := hA.un
    show A.units + unitsOf (fs.map Frame.where_) + c.cUnits + u < cLine
    omega
theorem split_ret {fs : List Frame} (hf : retFrames fs) : splitAtGen fs = none ∧ fs.any Frame.guarded = false := by
  induction fs with
  | nil => exact ⟨rfl, rfl⟩
  | cons f fs ih =>
    obtain ⟨i1, i2⟩ := ih fun f h => hf f (.tail _ h)
    obtain ⟨k, c, p, rfl, _⟩ := hf f (.head _)
    refine ⟨?_, ?_⟩
    · show (splitAtGen fs).map _ = none
      rw [i1]; rfl
    · rw [List.any_cons, i2]; rfl
theorem retFrames.cons {fs : List Frame} (hf : retFrames fs) {k : Result → Sem Fin} {c : Code} {p : Pos} (hc : c.cUnits ≤ 3 ∧ c.weight ≤ 1) : retFrames (.ret k none false [] c p [] :: fs) := fun f h => by
  rcases List.mem_cons.mp h with rfl | h
  · exact ⟨k, c, p, rfl, hc⟩
  · exact hf f h
theorem retFrames.nil : retFrames [] := fun f h => nomatch h
/-- a set of texts -/
noncomputable def SetI (prog : Program) (w : World) (ks : List Str) (o : Obj) : Prop := o.SetObjOf (strKind prog w) (fun k => decide (k ∈ ks)) ks.length
theorem r_set_new {Q : Value → Shared → Prop} (H : S C its s) (h : ∀ D s', S C ((D, SetI prog w []) :: its) s' → Q (.ref D) s') : wpAny (model prog w) A (call (.type "set") []) Q E s :=
  call_set_0 fun led => h _ _ (H.push (P := SetI prog w []) (d := s.drawn) (t := s.toks) (by
    have h1 := setObjOf_fresh (knd := strKind prog w) led
    have e : (fun k : Str => decide (k ∈ ([] : List Str))) = fun _ => false := funext fun k => by simp
    show Obj.SetObjOf _ _ (fun k => decide (k ∈ ([] : List Str))) 0
    rw [e]; exact h1) rfl)
theorem r_set_in {a : Addr} {ks : List Str} {k : Str} {t : Tok} {Q : Value → Shared → Prop} {b : Bool} (H : S C its s) (hm : (a, SetI prog w ks) ∈ its) (hz : ks.length < 1000) (hb : decide (k ∈ ks) = b) (h : ∀ s', S C its s' → Q (.bool b) s') :
    wpAny (model prog w) A (compareOp .In (.str k t) (.ref a)) Q E s := by
  obtain ⟨o, ho, hs⟩ := H.get hm
  refine wpAny_inSet_of (strKind_is _ _ _ _) rfl (hs.setOf ho (by unfold scanBound; omega)) ?_
  rw [hb]
  exact h _ (S.tk H)
theorem m_set_add {a : Addr} {ks : List Str} {pl : Sem Bool} {Q : Value × List Value → Shared → Prop} (H : S C its s) (hm : (a, SetI prog w ks) ∈ its) (hz : ks.length < 1000) (h : Q (.builtin "set.add", [.ref a]) s) :
    wpAny (model prog w) A (getMethod (.ref a) "add" pl) Q E s := by
  obtain ⟨o, ho, hs⟩ := H.get hm
  exact getMethod_set_add (hs.setOf ho (by unfold scanBound; omega)) h
theorem r_set_add {a : Addr} {ks : List Str} {k : Str} {t : Tok} {Q : Value → Shared → Prop} (H : S C its s) (hU : Up a (SetI prog w ks) (SetI prog w (ks ++ [k])) its its') (hz : ks.length < 1000) (hn : k ∉ ks) (h : ∀ s', S C its' s' → Q .none s') :
    wpAny (model prog w) A (call (.builtin "set.add") [.ref a, .str k t]) Q E s := by
  obtain ⟨o, ho, hs⟩ := H.get hU.mem
  refine call_set_add (strKind_is _ _ _ _) rfl (hs.setOf ho (by unfold scanBound; omega)) (by unfold scanBound; omega) fun h' hsb hS' => ?_
  obtain ⟨o', ho', hs'⟩ := hS'.objOf
  refine h _ (H.up hU hsb ho' ?_)
  have e1 : (fun k' => decide (k' ∈ ks) || decide (k' = k)) = fun k' => decide (k' ∈ ks ++ [k]) := funext fun k' => by
    rw [Bool.eq_iff_iff]; simp
  have e2 : (if decide (k ∈ ks) = true then ks.length else ks.length + 1) = (ks ++ [k]).length := by
    rw [if_neg (by simpa using hn)]; simp
  show Obj.SetObjOf _ _ _ _
  rw [← e1, ← e2]
  exact hs'
theorem r_set_len {a : Addr} {ks : List Str} {Q : Value → Shared → Prop} (H : S C its s) (hm : (a, SetI prog w ks) ∈ its) (hz : ks.length < 1000) (h : ∀ t s', S C its s' → Q (.int (ks.length : Int) t) s') : wpAny (model prog w) A (call (.builtin "len") [.ref a]) Q E s := by
  obtain ⟨o, ho, hex, es, ep, t, hd, _, _, hn, hf⟩ := H.get hm
  refine call_len_set ho hex hd hf (by omega) ?_
  rw [hn]
  exact h _ _ H.tk
/-- enumerate(xs) -/
noncomputable def EnumI (it : Addr) (i : Nat) (o : Obj) : Prop := ∃ old, o = { cls := .type "enumerate", dict := none, data := .fields #[.none, .bool false, .ref it, rawInt i, .none, old], slots := #[] }
noncomputable def enumP (e i1 l : Addr) (i : Nat) : List Item := [(e, EnumI i1 i), (i1, ListIt l i)]
theorem nxZ_enum (e i1 l : Addr) (xs : List Value) (ht : e ∉ C.tb ∧ i1 ∉ C.tb) :
    NxZ prog w C e xs.length (fun i us => ∃ n x X, us = [n, x] ∧ er n = .int (i : Int) 0 ∧ xs[i]? = some X ∧ er x = X) (enumP e i1 l) (fun its => (l, ListI xs) ∈ its) := by
  have htb : ∀ i, ∀ p ∈ enumP e i1 l i, p.1 ∉ C.tb := fun i p hp => by
    simp only [enumP, List.mem_cons, List.not_mem_nil, or_false] at hp
    rcases hp with rfl | rfl
    · exact ht.1
    · exact ht.2
  have hkeys : ∀ i, (enumP e i1 l i).map (·.1) = [e, i1] := fun i => rfl
  have hap : ∀ {i : Nat} {its : List Item} {s : Shared}, S C (enumP e i1 l i ++ its) s → e ≠ i1 := fun H he => by
    have nd := H.nd
    rw [List.map_append, List.nodup_append, hkeys, List.nodup_cons] at nd
    exact nd.1.1 (he ▸ .head _)
  refine ⟨fun A its s Q E Y elts k pos i hA H hn hi h => ?_, fun A its s Q E hA H hn h => ?_⟩
  · have D := hap H
    obtain ⟨oe, he, old, rfl⟩ := H.get (a := e) (P := EnumI i1 i) (by simp [enumP])
    obtain ⟨o1, h1, c1, d1⟩ := H.get (a := i1) (P := ListIt l i) (by simp [enumP])
    obtain ⟨ol1, hol1, hL1⟩ := H.get (List.mem_append_right _ hn)
    obtain ⟨us1, n1, hi1, e1⟩ := hL1.at hol1
    have hx := er_get e1 i
    rw [List.getElem?_eq_getElem hi] at hx
    obtain ⟨x, hx1, hx2⟩ := map_er hx.symm
    refine wpAny_pyNext_enum_item he ⟨_, h1, c1, d1⟩ (IsL.list hi1) hx1 D fun h' z1 z2 z3 z4 z5 => ?_
    refine wpAny_letOwnedTupleGo_enum z1 fun h'' w1 w2 => ?_
    have hsz : ∀ a o, s.heap.get? a = some o → a ≠ s.heap.objs.size := fun a o e => Nat.ne_of_lt (Heap.lt_size e)
    refine h s.heap.objs.size [.int i s.toks, x] _ ⟨_, x, _, rfl, rfl, List.getElem?_eq_getElem hi, hx2⟩ ?_ ⟨_, (w2.2 _ (Ne.symm (hsz _ _ he))).trans z3, rfl, _, rfl⟩
    refine S.re (s := s) (ps := enumP e i1 l i) H (by rw [hkeys, hkeys]) (fun c o hc q => ?_) (fun p hp => ?_) (htb i)
    · rw [hkeys] at hc
      simp only [List.mem_cons, List.not_mem_nil, or_false, not_or] at hc
      exact (w2.2 _ hc.1).trans (z5 c o hc.1 hc.2 q)
    · simp only [enumP, List.mem_cons, List.not_mem_nil, or_false] at hp
      rcases hp with rfl | rfl
      · exact ⟨_, w1, _, rfl⟩
      · obtain ⟨o, ho, hc, hd⟩ := z2
        exact ⟨o, (w2.2 _ (Ne.symm D)).trans ho, hc, hd⟩
  · obtain ⟨oe, he, old, rfl⟩ := H.get (a := e) (P := EnumI i1 xs.length) (by simp [enumP])
    obtain ⟨o1, h1, c1, d1⟩ := H.get (a := i1) (P := ListIt l xs.length) (by simp [enumP])
    obtain ⟨ol1, hol1, hL1⟩ := H.get (List.mem_append_right _ hn)
    obtain ⟨us1, n1, hi1, e1⟩ := hL1.at hol1
    have hx := er_get e1 xs.length
    rw [List.getElem?_eq_none (Nat.le_refl _)] at hx
    refine wpAny_pyNext_enum_end hA he ⟨_, h1, c1, d1⟩ (IsL.list hi1) (Option.map_eq_none_iff.mp hx.symm) fun h' hk => h _ (S.drop H (fun c o hc q => ?_) (htb _))
    rw [hkeys] at hc
    simp only [List.mem_cons, List.not_mem_nil, or_false, not_or] at hc
    exact hk c o hc.2 q
theorem r_enum {l : Addr} {xs : List Value} {Q : Value → Shared → Prop} (H : S C its s) (h1 : (l, ListI xs) ∈ its)
    (h : ∀ e i1 s', (e ∉ C.tb ∧ i1 ∉ C.tb) → S C (enumP e i1 l 0 ++ its) s' → Q (.ref e) s') : wpAny (model prog w) A (call (.type "enumerate") [.ref l]) Q E s := by
  obtain ⟨ol1, hol1, hL1⟩ := H.get h1
  obtain ⟨us1, n1, hi1, e1⟩ := hL1.at hol1
  refine call_enumerate_list (IsL.list hi1) fun h' z1 z2 z3 z4 => ?_
  refine h _ s.heap.objs.size _ ⟨H.fresh_ge (by omega), H.fresh_ge (by omega)⟩ (H.grow z4 (fun p hp => ?_) (fun p hp => ?_) ?_)
  · simp only [enumP, List.mem_cons, List.not_mem_nil, or_false] at hp
    rcases hp with rfl | rfl <;> (dsimp only; omega)
  · simp only [enumP, List.mem_cons, List.not_mem_nil, or_false] at hp
    rcases hp with rfl | rfl
    · exact ⟨_, z1, _, rfl⟩
    · obtain ⟨o, ho, hc, hd⟩ := z2
      exact ⟨o, ho, hc, hd⟩
  · simp only [enumP, List.map_cons, List.map_nil, List.nodup_cons, List.mem_cons, List.not_mem_nil, or_false, List.nodup_nil, and_true, not_false_eq_true]
    intro e; have e : @Eq Nat _ _ := e; omega
theorem it_enum {e i1 l : Addr} {i : Nat} {Q : Value → Shared → Prop} (H : S C (enumP e i1 l i ++ its) s) (h : Q (.ref e) s) : wpAny (model prog w) A (pyIter (.ref e)) Q E s := by
  obtain ⟨oz, hz, old, rfl⟩ := H.get (a := e) (P := EnumI i1 i) (by simp [enumP])
  exact wpAny_pyIter_enum hz h
end
end Mc

namespace Mc
section
variable {prog : Program} {w : World} {A : Around} {R : Result → Shared → Prop} {Y : Value → GenState → Shared → Prop} {C : Cx} {its : List Item} {s : Shared} {it : Addr} {fs : List Frame} {env : Env}
theorem sg_nx {n : Nat} {elt : Nat → Value → Prop} {P : Nat → Obj → Prop} {need : List Item → Prop} {x : Str} {p : Pos} {body orelse : List Stmt}
    (N : Nx prog w C it n elt P need) (hA : (A.over (.forLoop (.Name x p) (.ref it) body orelse env) fs).handled = none) {i : Nat} (hi : i < n) (hn : need its) (H : S C ((it, P i) :: its) s)
    (turn : ∀ v s₁, elt i v → S C ((it, P (i + 1)) :: its) s₁ → ∀ A1 E1, A1 = A.over (.forLoop (.Name x p) (.ref it) body orelse env) fs →
      wpAny (model prog w) A1 (storeName env x v) (fun _ s₃ => Sg (model prog w) A R Y (.forLoop (.Name x p) (.ref it) body orelse env) ((execs body env).wrap (KTurn (.forLoop (.Name x p) (.ref it) body orelse env)) (HTurn env) id id) fs s₃) E1 s₁) :
    Sg (model prog w) A R Y (.forLoop (.Name x p) (.ref it) body orelse env) ((model prog w).den (.forLoop (.Name x p) (.ref it) body orelse env)) fs s := by
  refine sg_forLoop (N.next _ its s _ _ i hA H hn hi fun v s' he H' => ?_)
  refine wpAny_of_eq (a := ()) rfl ?_
  exact wpAny_assign_Name (turn v s' he H' _ _ rfl)
theorem sg_nx_end {n : Nat} {elt : Nat → Value → Prop} {P : Nat → Obj → Prop} {need : List Item → Prop} {x : Str} {p : Pos} {body orelse : List Stmt}
    (N : Nx prog w C it n elt P need) (hA : (A.over (.forLoop (.Name x p) (.ref it) body orelse env) fs).handled = none) (hn : need its) (H : S C ((it, P n) :: its) s)
    (done : ∀ s₁, S C its s₁ → Sg (model prog w) A R Y (.block orelse env) ((model prog w).den (.block orelse env)) fs s₁) :
    Sg (model prog w) A R Y (.forLoop (.Name x p) (.ref it) body orelse env) ((model prog w).den (.forLoop (.Name x p) (.ref it) body orelse env)) fs s :=
  sg_forLoop (N.stop _ its s _ _ hA H hn fun s' H' => done s' H')
theorem sg_nxZ {n : Nat} {elt : Nat → List Value → Prop} {P : Nat → List Item} {need : List Item → Prop} {elts : List PySem.Expr} {k : Nat} {p : Pos} {body orelse : List Stmt}
    (N : NxZ prog w C it n elt P need) (hA : (A.over (.forLoop (.Tuple elts k p) (.ref it) body orelse env) fs).handled = none) (hlen : ∀ i us, elt i us → (assignEach elts env).length = us.length) (hst : List.findIdx? (fun x => x.1) (assignEach elts env) = none)
    {i : Nat} (hi : i < n) (hn : need its) (H : S C (P i ++ its) s)
    (turn : ∀ us s₁, elt i us → S C (P (i + 1) ++ its) s₁ → ∀ A1 E1, A1 = A.over (.forLoop (.Tuple elts k p) (.ref it) body orelse env) fs →
      wpAny (model prog w) A1 (assignInOrder (List.map (fun x => x.2) (assignEach elts env)) us) (fun _ s₃ => Sg (model prog w) A R Y (.forLoop (.Tuple elts k p) (.ref it) body orelse env) ((execs body env).wrap (KTurn (.forLoop (.Tuple elts k p) (.ref it) body orelse env)) (HTurn env) id id) fs s₃) E1 s₁) :
    Sg (model prog w) A R Y (.forLoop (.Tuple elts k p) (.ref it) body orelse env) ((model prog w).den (.forLoop (.Tuple elts k p) (.ref it) body orelse env)) fs s := by
  refine sg_forLoop (N.next _ its s _ _ _ elts k p i hA H hn hi fun t us s' he H' ht => ?_)
  refine wpAny_assign_Tuple hA ht (by rw [hlen i us he]; simp) hst fun h' hx => ?_
  have hH : S C (P (i + 1) ++ its) ⟨h', s'.gens, s'.drawn, s'.toks, s'.os⟩ := H'.ext0 hx
  rw [show us.toArray.toList = us from by simp]
  exact turn us _ he hH _ _ rfl
theorem sg_nxZ_end {n : Nat} {elt : Nat → List Value → Prop} {P : Nat → List Item} {need : List Item → Prop} {elts : List PySem.Expr} {k : Nat} {p : Pos} {body orelse : List Stmt}
    (N : NxZ prog w C it n elt P need) (hA : (A.over (.forLoop (.Tuple elts k p) (.ref it) body orelse env) fs).handled = none) (hn : need its) (H : S C (P n ++ its) s)
    (done : ∀ s₁, S C its s₁ → Sg (model prog w) A R Y (.block orelse env) ((model prog w).den (.block orelse env)) fs s₁) :
    Sg (model prog w) A R Y (.forLoop (.Tuple elts k p) (.ref it) body orelse env) ((model prog w).den (.forLoop (.Tuple elts k p) (.ref it) body orelse env)) fs s :=
  sg_forLoop (N.stop _ its s _ _ hA H hn fun s' H' => done s' H')
/-- a loop within a generator over another generator -/
theorem sg_gen {K : Frag} {gl : List (Str × Value)} {G : Array GenState} {g d u : Nat} {need : List Item} {X : Value} {vs : List Value} {fr : List Item} {x : Str} {p : Pos} {body orelse : List Stmt} (hB : Bs prog w K gl C)
    (hA : Rm (A.over (.forLoop (.Name x p) (.ref it) body orelse env) fs) d (u + 1)) (h : GSt prog w C it g d u need (X :: vs) G its) (hn : ∀ p ∈ need, p ∈ fr) (H : S (C.wg G) (its ++ fr) s)
    (turn : ∀ v G' its' s', er v = X → GRel g G G' → GSt prog w C it g d u need vs G' its' → S (C.wg G') (its' ++ fr) s' → ∀ A1 E1, A1 = A.over (.forLoop (.Name x p) (.ref it) body orelse env) fs →
      wpAny (model prog w) A1 (storeName env x v) (fun _ s₃ => Sg (model prog w) A R Y (.forLoop (.Name x p) (.ref it) body orelse env) ((execs body env).wrap (KTurn (.forLoop (.Name x p) (.ref it) body orelse env)) (HTurn env) id id) fs s₃) E1 s') :
    Sg (model prog w) A R Y (.forLoop (.Name x p) (.ref it) body orelse env) ((model prog w).den (.forLoop (.Name x p) (.ref it) body orelse env)) fs s := by
  refine sg_forLoop (h.next hB hA hn H fun v G' its' s' he hr hst H' => ?_)
  refine wpAny_of_eq (a := ()) rfl ?_
  exact wpAny_assign_Name (turn v G' its' s' he hr hst H' _ _ rfl)
theorem sg_gen_end {K : Frag} {gl : List (Str × Value)} {G : Array GenState} {g d u : Nat} {need : List Item} {fr : List Item} {x : Str} {p : Pos} {body orelse : List Stmt} (hB : Bs prog w K gl C)
    (hA : Rm (A.over (.forLoop (.Name x p) (.ref it) body orelse env) fs) d (u + 1)) (h : GSt prog w C it g d u need [] G its) (hn : ∀ p ∈ need, p ∈ fr) (H : S (C.wg G) (its ++ fr) s)
    (done : ∀ G' s', GRel g G G' → S (C.wg G') fr s' → Sg (model prog w) A R Y (.block orelse env) ((model prog w).den (.block orelse env)) fs s') :
    Sg (model prog w) A R Y (.forLoop (.Name x p) (.ref it) body orelse env) ((model prog w).den (.forLoop (.Name x p) (.ref it) body orelse env)) fs s :=
  sg_forLoop (h.stop hB hA hn H fun G' s' hr H' => done G' s' hr H')
end
end Mc

namespace Mc
section
variable {prog : Program} {w : World} {A : Around} {E : Value → Shared → Prop} {C : Cx} {its : List Item} {s : Shared} {a : Addr} {K : Type} [DecidableEq K] {knd : KeyKind prog w K} {kvs : List (K × Value)} {ep : Option Nat}
theorem r_len_dict {Q : Value → Shared → Prop} (H : S C its s) (hm : (a, DictI knd kvs ep) ∈ its) (ha : (a == sysModules) = false) (hz : kvs.length ≤ 1048576) (h : ∀ t s', S C its s' → Q (.int (kvs.length : Int) t) s') :
    wpAny (model prog w) A (call (.builtin "len") [.ref a]) Q E s := by
  obtain ⟨o, ho, hD⟩ := H.get hm
  obtain ⟨us, h1, h2⟩ := hD.at ho
  subst h2
  rw [List.length_map] at hz h
  exact call_len_dict ha h1 (by omega) (h _ _ (S.tk H))
theorem r_slice_from3 {value slice : PySem.Expr} {l n : Addr} {vs : List Value} {b : Nat} {u : Tok} {Q : Value → Shared → Prop} {s₁ : Shared} {d : Drawn} {t : Nat}
    (H : S C its s) (hm : (l, ListI vs) ∈ its) (hz : vs.length ≤ 1000) (e : s₁ = ⟨s.heap.push { cls := .type "slice", data := .fields #[.int b u, .none, .none] }, s.gens, d, t, s.os⟩) (en : n = s.heap.objs.size)
    (hs : subscripted slice false (.ref l) (.ref n) = operate [.ref n, .ref l] (getItem (.ref l) (.ref n)))
    (h : ∀ D s', S C ((D, ListI (vs.drop b)) :: its) s' → Q (.ref D) s') :
    wpAny (model prog w) A (subscriptTail value slice (.ref l) (.ref n)) Q E s₁ :=
  kba_turn (value' := .Name "x" ⟨0, 0, 0, 0⟩) (fun r => rfl) (r_slice_from2 H hm hz e en hs (fun r => rfl) h)
end
end Mc

namespace Mc
/-- a comprehension from its iterator on, with any target -/
noncomputable def LcSrcG (prog : Program) (w : World) (A : Around) (E : Value → Shared → Prop) (env : Env) (elt iter target : PySem.Expr) (ifs : List PySem.Expr) (scope : Scope) (cl : List (Str × Addr)) (pos : Pos) (use : Option (Value → Sem Unit)) (Q : Value → Shared → Prop) (it : Value) (s₂ : Shared) : Prop :=
  wpAny (model prog w) A (newList []) (fun acc s₃ => wpAny (model prog w) A (newFunctionEnv scope env.globals cl [] env.qual none .none (some env)) (fun cenv s₄ =>
    codeAny (model prog w) A (.compStart (.ListComp elt [⟨target, iter, ifs, 0⟩] scope pos) 0 it acc { cenv with scope := relabel scope env }) (compPost (model prog w) A E use Q acc cenv.locals) s₄) E s₃) E s₂
section
variable {prog : Program} {w : World} {A : Around} {E : Value → Shared → Prop} {C : Cx} {its : List Item} {s : Shared} {env : Env} {elt iter target : PySem.Expr} {x y : Str} {px py : Pos} {ifs : List PySem.Expr} {scope : Scope} {cl : List (Str × Addr)} {pos : Pos} {Q : Value → Shared → Prop}
theorem lc_evalG (hclos : closureFor scope env = pure cl) (hkind : scope.kind = .function) (hnames : ∀ y ∈ scope.names, y.2 = .local → scope.names.lookup y.1 = some .local)
    (h : wpAny (model prog w) A (eval iter env) (fun xv s₁ => wpAny (model prog w) A (pyIter xv) (LcSrcG prog w A E env elt iter target ifs scope cl pos none Q) E s₁) E s)
    (hs : ∀ x, foldedSetIterable iter env x = pure x := by intro _; rfl) : wpAny (model prog w) A (eval (.ListComp elt [⟨target, iter, ifs, 0⟩] scope pos) env) Q E s := by
  rw [eval_ListComp]
  exact wpAny_comprehension_free (use := none) rfl hs hclos hkind hnames h
theorem compLoop_any {it acc : Value} {R : Result → Shared → Prop} (I : Nat → Shared → Prop)
    (turn : ∀ n s, I n s → wpAny (model prog w) A (pyNext it) (fun r s₁ => match r with
      | none => R (.ok .next) s₁
      | some v => wpAny (model prog w) A (letOwnedTupleGo target it v) (fun _ s₁' => wpAny (model prog w) A (assign target env v) (fun _ s₂ =>
          wpAny (model prog w) A (forIn ifs true fun c r => if r = true then do let ok ← isTrue c env (eval c env); pure (ForInStep.yield ok) else pure (ForInStep.yield r)) (fun ok s₃ =>
            if ok = true then wpAny (model prog w) A (eval elt env) (fun x s₄ =>
              wpAny (model prog w) A (call (.builtin "list.append") [acc, x]) (fun _ s₅ => ∃ m, m < n ∧ I m s₅) (notedBy (model prog w) A env fun e s' => R (.error e) s') s₄) (notedBy (model prog w) A env fun e s' => R (.error e) s') s₃
            else ∃ m, m < n ∧ I m s₃) (notedBy (model prog w) A env fun e s' => R (.error e) s') s₂) (notedBy (model prog w) A env fun e s' => R (.error e) s') s₁') (notedBy (model prog w) A env fun e s' => R (.error e) s') s₁) (notedBy (model prog w) A env fun e s' => R (.error e) s') s)
    (n : Nat) (h : I n s) : codeAny (model prog w) A (.compLoop (.ListComp elt [⟨target, iter, ifs, 0⟩] scope pos) 0 it acc env) R s := by
  refine codeAny_loop rfl I (fun n s hI => ?_) n h
  show wpAny _ A ((compTurn (.ListComp elt [⟨target, iter, ifs, 0⟩] scope pos) 0 it acc env).onRaise (fun x => do noteFrame x env; theTreesLotGoes x)) _ _ s
  refine wpAny_noted ?_
  rw [compTurn_list]
  refine wpAny_bind (wpAny_standAt (wpAny_bind (wpAny_mono (turn n s hI) (fun r s₁ h₁ => ?_) fun _ _ h' => h')))
  cases r with
  | none => exact wpAny_pure h₁
  | some v =>
    refine wpAny_bind (wpAny_mono h₁ (fun _ s₁' h₁' => ?_) fun _ _ h' => h')
    refine wpAny_bind (wpAny_mono h₁' (fun _ s₂ h₂ => wpAny_bind (wpAny_mono h₂ (fun ok s₃ h₃ => ?_) fun _ _ h' => h')) fun _ _ h' => h')
    cases ok with
    | false => exact wpAny_pure ⟨rfl, h₃⟩
    | true =>
      exact wpAny_bind (wpAny_bind (wpAny_mono h₃ (fun x s₄ h₄ => wpAny_bind (wpAny_mono h₄ (fun _ s₅ h₅ => wpAny_pure (wpAny_pure ⟨rfl, h₅⟩)) fun _ _ h' => h')) fun _ _ h' => h'))
/-- a new list and the comprehension's frame -/
theorem lc_open {use : Option (Value → Sem Unit)} {it : Addr} (names : List Str) (hnd : nodupB names = true) (hcell : ∀ y ∈ scope.names, y.2 ≠ .cell) (hkind : scope.kind = .function) (H : S C its s)
    (h : ∀ D cf s', cf ∉ C.tb → S C ((cf, NsI (names.map fun x => (x, none))) :: (D, ListI []) :: its) s' →
      codeAny (model prog w) A (.compStart (.ListComp elt [⟨target, iter, ifs, 0⟩] scope pos) 0 (.ref it) (.ref D) (compEnvC scope cl cf env)) (compPost (model prog w) A E use Q (.ref D) cf) s') :
    LcSrcG prog w A E env elt iter target ifs scope cl pos use Q (.ref it) s := by
  unfold LcSrcG
  refine wpAny_newObj_type ?_
  have H1 := H.push (o := { cls := .type "list", data := .seq #[] }) (P := ListI []) (d := s.drawn) (t := s.toks) ⟨#[], 0, rfl, rfl⟩ rfl
  generalize hs1 : (⟨s.heap.push { cls := .type "list", data := .seq #[] }, s.gens, s.drawn, s.toks, s.os⟩ : Shared) = s1 at H1
  generalize hD : s.heap.objs.size = D at *
  have hcf := H1.fresh_tb
  refine wpAny_newFunctionEnv hcell (by intro y hy; simp at hy) (fun h₁ hns hsb => ?_) hkind
  have H2 := H1.push (o := { cls := .type "dict", data := .dict #[] }) (P := fun _ => True) (d := s1.drawn) (t := s1.toks) trivial rfl
  obtain ⟨oL, es, ep, hoL, hdL, hsk, hf⟩ := id hns
  have hk : (names.map fun x => (x, (none : Option Value))).map (·.1) = names := by rw [List.map_map]; exact List.map_id _
  have H3 : S C ((s1.heap.objs.size, NsI (names.map fun x => (x, none))) :: (D, ListI []) :: its) ⟨h₁, s1.gens, s1.drawn, s1.toks + 0, s1.os⟩ :=
    S.up (d := s1.drawn) H2 (P := fun _ => True) .head hsb hoL ⟨es, ep, hdL, hsk, by rw [hk]; exact nodupB_iff hnd, fun p hp => by
      obtain ⟨x, _, rfl⟩ := List.mem_map.mp hp
      rw [hf]; rfl⟩
  exact h D _ _ hcf H3
/-- over a list of pairs, with a test -/
theorem lc_goP {use : Option (Value → Sem Unit)} {it l : Addr} {ts : List Addr} {ds : List (Value × Value)} {k : Nat} {tp : Pos} {c : PySem.Expr} (hA : A.handled = none) (hts : ts.length = ds.length) (hxy : x ≠ y) (Inv : Nat → List Value → List Item → Prop)
    (hneed : ∀ i ys l', Inv i ys l' → (l, ListI (ts.map .ref)) ∈ l' ∧ ∀ p ∈ tupIts ts (ds.map fun d => [d.1, d.2]), p ∈ l') (hit : it ∉ C.tb)
    (hcell : ∀ y ∈ scope.names, y.2 ≠ .cell) (hkind : scope.kind = .function) (hx : scope.names.lookup x = some .local) (hy : scope.names.lookup y = some .local) (hz : ds.length ≤ 100000)
    (h0 : Inv 0 [] its) (H : S C ((it, ListIt l 0) :: its) s)
    (turn : ∀ i (h : i < ds.length) ys l' cf D s₁ (E' : Value → Shared → Prop), Inv i ys l' → ys.length ≤ i → S C ((cf, NsI [(x, some ds[i].1), (y, some ds[i].2)]) :: (D, ListI ys) :: (it, ListIt l (i + 1)) :: l') s₁ →
      wpAny (model prog w) A (isTrue c (compEnvC scope cl cf env) (eval c (compEnvC scope cl cf env)))
        (fun ok s₃ => if ok = true then wpAny (model prog w) A (eval elt (compEnvC scope cl cf env)) (fun y' s₄ => Hide (∃ l2, Inv (i + 1) (ys ++ [er y']) l2 ∧ S C ((cf, NsI [(x, some ds[i].1), (y, some ds[i].2)]) :: (D, ListI ys) :: (it, ListIt l (i + 1)) :: l2) s₄)) E' s₃
          else Hide (∃ l2, Inv (i + 1) ys l2 ∧ S C ((cf, NsI [(x, some ds[i].1), (y, some ds[i].2)]) :: (D, ListI ys) :: (it, ListIt l (i + 1)) :: l2) s₃)) E' s₁)
    (done : ∀ ys l' cf X D s₁, Inv ds.length ys l' → ys.length ≤ ds.length → cf ∉ C.tb → S C ((cf, NsI X) :: (D, ListI ys) :: l') s₁ → compPost (model prog w) A E use Q (.ref D) cf (.ok .next) s₁) :
    LcSrcG prog w A E env elt iter (.Tuple [.Name x px, .Name y py] k tp) [c] scope cl pos use Q (.ref it) s := by
  refine lc_open [x, y] (by simp [nodupB, hxy]) hcell hkind H fun D cf s₀ hcf H3 => ?_
  have H3 : S C ((cf, NsI [(x, none), (y, none)]) :: (D, ListI []) :: (it, ListIt l 0) :: its) s₀ := H3
  have hlen : (ts.map Value.ref).length = ds.length := by rw [List.length_map, hts]
  have hrot : ∀ {p q r : Item} {l : List Item}, (p :: q :: r :: l).Perm (r :: p :: q :: l) := fun {p q r l} => (List.Perm.cons _ (List.Perm.swap _ _ _)).trans (List.Perm.swap _ _ _)
  have hloop : codeAny (model prog w) A (.compLoop (.ListComp elt [⟨.Tuple [.Name x px, .Name y py] k tp, iter, [c], 0⟩] scope pos) 0 (.ref it) (.ref D) (compEnvC scope cl cf env)) (compPost (model prog w) A E use Q (.ref D) cf) s₀ := by
    refine compLoop_any (fun m s => ∃ i ys l' X Y, m = ds.length - i ∧ i ≤ ds.length ∧ ys.length ≤ i ∧ Inv i ys l' ∧ S C ((cf, NsI [(x, X), (y, Y)]) :: (D, ListI ys) :: (it, ListIt l i) :: l') s) (fun m s₁ ⟨i, ys, l', X, Y, hm, hi, hyl, hI, Hs⟩ => ?_) ds.length ⟨0, [], its, none, none, rfl, Nat.zero_le _, Nat.le_refl _, h0, H3⟩
    obtain ⟨hn1, hn2⟩ := hneed i ys l' hI
    by_cases hlt : i < ds.length
    · refine (nx_list l (ts.map .ref) hit).next A ((cf, NsI [(x, X), (y, Y)]) :: (D, ListI ys) :: l') s₁ _ _ i hA (Hs.perm hrot) (.tail _ (.tail _ hn1)) (by rw [hlen]; exact hlt) fun v s' hv H' => ?_
      obtain ⟨X', hX', hev⟩ := hv
      have hti : i < ts.length := by rw [hts]; exact hlt
      rw [List.getElem?_map, List.getElem?_eq_getElem hti] at hX'
      cases hX'
      obtain rfl := er_ref hev
      have H'' := H'.perm hrot.symm
      obtain ⟨oi, hoi, hci, hdi⟩ := H'.get (.head _)
      refine wpAny_letOwnedTupleGo_listiter ⟨oi, hoi, hci, hdi⟩ ?_
      have htm : (ts[i], TupI [ds[i].1, ds[i].2]) ∈ tupIts ts (ds.map fun d => [d.1, d.2]) := by
        unfold tupIts
        refine List.mem_map.mpr ⟨(ts[i], [ds[i].1, ds[i].2]), ?_, rfl⟩
        refine List.mem_iff_getElem.mpr ⟨i, by rw [List.length_zip, List.length_map, hts, Nat.min_self]; exact hlt, ?_⟩
        rw [List.getElem_zip, List.getElem_map]
      obtain ⟨ot, hot, us, nn, rfl, eu⟩ := H'.get (.tail _ (.tail _ (.tail _ (hn2 _ htm))))
      have hus : ∃ u1 u2, us = #[u1, u2] ∧ er u1 = ds[i].1 ∧ er u2 = ds[i].2 := by
        obtain ⟨us⟩ := us
        have eu : us.map er = [ds[i].1, ds[i].2] := eu
        rcases us with _ | ⟨u1, _ | ⟨u2, _ | ⟨u3, us⟩⟩⟩
        · simp at eu
        · simp at eu
        · rw [List.map_cons, List.map_cons] at eu
          injection eu with e1 eu
          injection eu with e2 _
          exact ⟨u1, u2, rfl, e1, e2⟩
        · rw [List.map_cons, List.map_cons, List.map_cons] at eu
          injection eu with e1 eu
          injection eu with e2 eu
          simp at eu
      obtain ⟨u1, u2, rfl, e1, e2⟩ := hus
      refine wpAny_assign_Tuple hA ⟨_, hot, rfl, _, rfl⟩ rfl rfl fun h' hx' => ?_
      have hH : S C ((cf, NsI [(x, X), (y, Y)]) :: (D, ListI ys) :: (it, ListIt l (i + 1)) :: l') ⟨h', s'.gens, s'.drawn, s'.toks, s'.os⟩ := H''.ext0 hx'
      show wpAny _ A (assignInOrder [fun v => assign (.Name x px) (compEnvC scope cl cf env) v, fun v => assign (.Name y py) (compEnvC scope cl cf env) v] [u1, u2]) _ _ _
      unfold assignInOrder
      refine wpAny_bind (wpAny_holding (wpAny_assign_Name (st_local (L := cf) hH rfl (lookup_relabel_local hx) (by simp [compEnvC, relabel, hkind]) e1 (.head _) .head .head fun s2 H2 => ?_)))
      unfold assignInOrder
      refine wpAny_bind (wpAny_holding (wpAny_assign_Name (st_local (L := cf) H2 rfl (lookup_relabel_local hy) (by simp [compEnvC, relabel, hkind]) e2 (.head _) (.tail .head) .head fun s3 H3 => ?_)))
      unfold assignInOrder
      refine wpAny_pure ?_
      refine wpAny_tests_one (wpAny_mono (turn i hlt ys l' cf D s3 _ hI hyl H3) (fun ok s₃ h₃ => ?_) fun _ _ e => e)
      split
      · rename_i hok
        rw [if_pos hok] at h₃
        refine wpAny_mono h₃ (fun y s₄ ⟨l2, hI', H4⟩ => ?_) fun _ _ e => e
        exact r_append H4 rfl (.tail .head) (by omega) fun s5 H5 => ⟨ds.length - (i + 1), by omega, i + 1, ys ++ [er y], l2, _, _, rfl, hlt, by simp; omega, hI', H5⟩
      · rename_i hok
        rw [if_neg hok] at h₃
        obtain ⟨l2, hI', H4⟩ := h₃
        exact ⟨ds.length - (i + 1), by omega, i + 1, ys, l2, _, _, rfl, hlt, by omega, hI', H4⟩
    · have hin : i = ds.length := by omega
      subst hin
      exact (nx_list l (ts.map .ref) hit).stop A ((cf, NsI [(x, X), (y, Y)]) :: (D, ListI ys) :: l') s₁ _ _ hA (by rw [hlen]; exact Hs.perm hrot) (.tail _ (.tail _ hn1)) fun s' H' => done ys l' cf _ D s' hI hyl hcf H'
  refine codeAny_compStart_list hloop ?_
  exact self_list (H3.perm hrot) hloop
/-- over a generator -/
theorem lc_gen {K : Frag} {gl : List (Str × Value)} {use : Option (Value → Sem Unit)} {it : Addr} {G : Array GenState} {g d u : Nat} {need : List Item} {vs : List Value} {own fr : List Item} (hB : Bs prog w K gl C) (hA : Rm A d (u + 1)) (Inv : Nat → List Value → List Item → Prop) (hneed : ∀ i ys l, Inv i ys l → ∀ p ∈ need, p ∈ l)
    (hcell : ∀ y ∈ scope.names, y.2 ≠ .cell) (hkind : scope.kind = .function) (hx : scope.names.lookup x = some .local) (hz : vs.length ≤ 100000)
    (h0 : Inv 0 [] fr) (hst : GSt prog w C it g d u need vs G own) (H : S (C.wg G) (own ++ fr) s)
    (turn : ∀ i (h : i < vs.length) v ys l cf D s₁ G' own' (E' : Value → Shared → Prop), er v = vs[i] → Inv i ys l → ys.length ≤ i → S (C.wg G') ((cf, NsI [(x, some (er v))]) :: (D, ListI ys) :: (own' ++ l)) s₁ →
      wpAny (model prog w) A (eval elt (compEnvC scope cl cf env)) (fun y s₄ => Hide (∃ l', Inv (i + 1) (ys ++ [er y]) l' ∧ S (C.wg G') ((cf, NsI [(x, some (er v))]) :: (D, ListI ys) :: (own' ++ l')) s₄)) E' s₁)
    (done : ∀ ys l cf X D s₁ G', GRel g G G' → Inv vs.length ys l → ys.length ≤ vs.length → cf ∉ C.tb → S (C.wg G') ((cf, NsI [(x, X)]) :: (D, ListI ys) :: l) s₁ → compPost (model prog w) A E use Q (.ref D) cf (.ok .next) s₁) :
    LcSrcG prog w A E env elt iter (.Name x px) [] scope cl pos use Q (.ref it) s := by
  refine lc_open (C := C.wg G) [x] rfl hcell hkind H fun D cf s₀ hcf H3 => ?_
  have H3 : S (C.wg G) ((cf, NsI [(x, none)]) :: (D, ListI []) :: (own ++ fr)) s₀ := H3
  have hrot : ∀ {p q : Item} {o l : List Item}, (p :: q :: (o ++ l)).Perm (o ++ (p :: q :: l)) := fun {p q o l} => List.perm_append_comm_assoc [p, q] o l
  have hloop : codeAny (model prog w) A (.compLoop (.ListComp elt [⟨.Name x px, iter, [], 0⟩] scope pos) 0 (.ref it) (.ref D) (compEnvC scope cl cf env)) (compPost (model prog w) A E use Q (.ref D) cf) s₀ := by
    refine codeAny_compLoop_tests (fun m s => ∃ i ys l X G' own, m = vs.length - i ∧ i ≤ vs.length ∧ ys.length ≤ i ∧ Inv i ys l ∧ GRel g G G' ∧ GSt prog w C it g d u need (vs.drop i) G' own ∧ S (C.wg G') ((cf, NsI [(x, X)]) :: (D, ListI ys) :: (own ++ l)) s) (fun m s₁ ⟨i, ys, l, X, G', own, hm, hi, hyl, hI, hr, hst, Hs⟩ => ?_) vs.length ⟨0, [], fr, none, G, own, rfl, Nat.zero_le _, Nat.le_refl _, h0, GRel.refl, hst, H3⟩
    have hn := hneed i ys l hI
    by_cases hlt : i < vs.length
    · rw [List.drop_eq_getElem_cons hlt] at hst
      refine hst.next hB hA (fun p hp => .tail _ (.tail _ (hn p hp))) (Hs.perm hrot) fun v G2 own2 s' hv hr2 hst2 H' => ?_
      have H'' := H'.perm hrot.symm
      refine wpAny_assign_Name (st_local (L := cf) H'' rfl (lookup_relabel_local hx) (by simp [compEnvC, relabel, hkind]) rfl (.head _) .head .head fun s'' H3 => ?_)
      refine wpAny_tests_nil ?_
      rw [if_pos rfl]
      refine wpAny_mono (turn i hlt v ys l cf D s'' G2 own2 _ hv hI hyl H3) (fun y s₄ ⟨l', hI', H4⟩ => ?_) fun _ _ e => e
      exact r_append H4 rfl (.tail .head) (by omega) fun s5 H5 => ⟨vs.length - (i + 1), by omega, i + 1, ys ++ [er y], l', _, G2, own2, rfl, hlt, by simp; omega, hI', hr.trans hr2, hst2, H5⟩
    · have hin : i = vs.length := by omega
      subst hin
      rw [List.drop_length] at hst
      refine hst.stop hB hA (fun p hp => .tail _ (.tail _ (hn p hp))) (Hs.perm hrot) fun G2 s' hr2 H' => ?_
      exact done ys l cf _ D s' G2 (hr.trans hr2) hI hyl hcf H'
  refine codeAny_compStart_list hloop ?_
  exact wpAny_pyIter_gen (GenI.at H3 (.tail _ (.tail _ (List.mem_append_left _ hst.mem)))) hloop
end
end Mc

namespace Mc
/-- values that are told alike by what they are -/
inductive Alike : Value → Prop
  | ref (a) : Alike (.ref a)
  | str (x) : Alike (.str x 0)
  | none : Alike .none
  | int (i) : Alike (.int i 0)
section
variable {prog : Program} {w : World} {A : Around} {E : Value → Shared → Prop} {C : Cx} {its : List Item} {s : Shared} {a b : Addr} {vs : List Value}
theorem Alike.at {X u v : Value} (h : Alike X) (hu : er u = X) (hv : er v = X) (A : Around) (s : Shared) : SeqAt.EqAt A s u v true := by
  cases h with
  | ref a => rw [er_ref hu, er_ref hv]; exact SeqAt.EqAt.same _
  | str x =>
    obtain ⟨t, rfl⟩ := er_str hu
    obtain ⟨t', rfl⟩ := er_str hv
    have := (eqGives_str x x t t').at A s
    rwa [beq_self_eq_true] at this
  | none => rw [er_none hu, er_none hv]; exact SeqAt.EqAt.same _
  | int i =>
    obtain ⟨t, rfl⟩ := er_int hu
    obtain ⟨t', rfl⟩ := er_int hv
    have := SeqAt.EqAt.int_int (A := A) (s := s) i t i t'
    rwa [beq_self_eq_true] at this
theorem same_elems (h : ∀ v ∈ vs, Alike v) {us us' : Array Value} (e : us.toList.map er = vs) (e' : us'.toList.map er = vs) (A : Around) (s : Shared) : us.size = us'.size ∧ ∀ j (h1 : j < us.size) (h2 : j < us'.size), SeqAt.EqAt A s us[j] us'[j] true := by
  have l1 := len_er e
  have l2 := len_er e'
  refine ⟨by omega, fun j h1 h2 => ?_⟩
  have g1 := er_get e j
  have g2 := er_get e' j
  have hj : j < vs.length := by omega
  rw [Array.getElem?_eq_getElem h1, List.getElem?_eq_getElem hj] at g1
  rw [Array.getElem?_eq_getElem h2, List.getElem?_eq_getElem hj] at g2
  exact (h _ (List.getElem_mem hj)).at (Option.some.inj g1).symm (Option.some.inj g2).symm A s
/-- two lists of the same things -/
theorem r_ne_same {Q : Value → Shared → Prop} (H : S C its s) (h1 : (a, ListI vs) ∈ its) (h2 : (b, ListI vs) ∈ its) (hs : ∀ v ∈ vs, Alike v) (hu : A.units < cLine) (h : Q (.bool false) s) : wpAny (model prog w) A (compareOp .NotEq (.ref a) (.ref b)) Q E s := by
  obtain ⟨o, ho, hL⟩ := H.get h1
  obtain ⟨us, n, hi, e⟩ := hL.at ho
  obtain ⟨o', ho', hL'⟩ := H.get h2
  obtain ⟨us', n', hi', e'⟩ := hL'.at ho'
  obtain ⟨hz, he⟩ := same_elems hs e e' A.in1 s
  refine SeqAt.RcNeAt.lists (e := fun _ => true) (IsL.list hi) (IsL.list hi') hz hu he prog w E Q ?_
  rw [show (List.range us.size).all (fun _ => true) = true by simp]
  exact h
theorem r_eq_same {Q : Value → Shared → Prop} (H : S C its s) (h1 : (a, ListI vs) ∈ its) (h2 : (b, ListI vs) ∈ its) (hs : ∀ v ∈ vs, Alike v) (hu : A.units < cLine) (h : Q (.bool true) s) : wpAny (model prog w) A (compareOp .Eq (.ref a) (.ref b)) Q E s := by
  obtain ⟨o, ho, hL⟩ := H.get h1
  obtain ⟨us, n, hi, e⟩ := hL.at ho
  obtain ⟨o', ho', hL'⟩ := H.get h2
  obtain ⟨us', n', hi', e'⟩ := hL'.at ho'
  obtain ⟨hz, he⟩ := same_elems hs e e' A.in1 s
  refine SeqAt.eq_listAt (e := fun _ => true) (IsL.list hi) (IsL.list hi') hz hu he ?_
  rw [show (List.range us.size).all (fun _ => true) = true by simp]
  exact h
theorem r_notIn_strs {l : Addr} {vs : List Value} {ys : List Str} {k : Str} {t : Tok} {b : Bool} {Q : Value → Shared → Prop} (H : S C its s) (hm : (l, ListI vs) ∈ its) (hs : StL vs ys) (hb : decide (k ∈ ys) = b) (h : Q (.bool (!b)) s) :
    wpAny (model prog w) A (compareOp .NotIn (.str k t) (.ref l)) Q E s := by
  obtain ⟨o, ho, hL⟩ := H.get hm
  obtain ⟨us, n, hi, e⟩ := hL.at ho
  have := IsL.list hi
  refine notin_list_strs (vs := us.toList) (by simpa using this) (hs.are e) ?_
  have e2 : (ys.any (· == k)) = b := by
    rw [← hb, Bool.eq_iff_iff, List.any_eq_true, decide_eq_true_eq]
    exact ⟨fun ⟨y, h1, h2⟩ => (beq_iff_eq.mp h2) ▸ h1, fun h => ⟨_, h, beq_self_eq_true _⟩⟩
  rw [e2]
  exact h
theorem strs_er {us : List Value} {ss : List Str} (h : StrsAre us ss) : us.map er = ss.map fun x => .str x 0 := by
  induction h with
  | nil => rfl
  | cons x t h ih => rw [List.map_cons, List.map_cons, ih]; rfl
/-- sorted(xs) of texts -/
theorem r_sorted_strs {l : Addr} {vs : List Value} {ys : List Str} {Q : Value → Shared → Prop} (H : S C its s) (hm : (l, ListI vs) ∈ its) (hs : StL vs ys) (hz : ys.length < 64)
    (h : ∀ D ss s', ss.Perm ys → sortedS ss = true → S C ((D, ListI (ss.map fun x => .str x 0)) :: its) s' → Q (.ref D) s') : wpAny (model prog w) A (call (.builtin "sorted") [.ref l]) Q E s := by
  obtain ⟨o, ho, hL⟩ := H.get hm
  obtain ⟨us, n, hi, e⟩ := hL.at ho
  have := IsL.list hi
  have hA := hs.are e
  have hl : us.toList.length = ys.length := by
    have := congrArg List.length (strs_er hA)
    simpa using this
  refine sorted_strs (vs := us.toList) (by simpa using this) hA (by omega) fun out ss a1 a2 a3 => ?_
  obtain ⟨n0, hn0⟩ := sortedAll_at s.heap us.toList out
  refine h (s.heap.objs.size + 1) ss _ a2 a3 ?_
  refine S.grow (ps := [(s.heap.objs.size + 1, ListI (ss.map fun x => .str x 0))]) H (fun _ _ q => sortedAll_old q) (fun p hp => ?_) (fun p hp => ?_) (by simp)
  · rw [List.mem_singleton] at hp; subst hp
    exact Nat.le_succ _
  · rw [List.mem_singleton] at hp; subst hp
    exact ⟨_, hn0, out, n0, rfl, strs_er a1⟩
end
end Mc

namespace Mc
section
variable {prog : Program} {w : World} {A : Around} {C : Cx} {its : List Item} {s : Shared} {it : Addr}
/-- a loop whose turns run generators -/
theorem for_nxG {env : Env} {n : Nat} {elt : Nat → Value → Prop} {P : Nat → Obj → Prop} {need : List Item → Prop} {R : Result → Shared → Prop} {x : Str} {p : Pos} {body orelse : List Stmt}
    (N : ∀ G, Nx prog w (C.wg G) it n elt P need) (hA : A.handled = none) (Inv : Nat → List Item → Prop) (hneed : ∀ i l, Inv i l → need l) (h0 : Inv 0 its) (G : Array GenState) (hG : BareG G) (H : S (C.wg G) ((it, P 0) :: its) s)
    (turn : ∀ i v l s₁ G (E' : Value → Shared → Prop), i < n → elt i v → Inv i l → BareG G → S (C.wg G) ((it, P (i + 1)) :: l) s₁ →
      ∀ QI : Flow → Shared → Prop, (∀ s l G, BareG G → Inv (i + 1) l → S (C.wg G) ((it, P (i + 1)) :: l) s → QI .next s) →
      wpAny (model prog w) A (storeName env x v) (fun _ s₂ => wpAny (model prog w) A (execs body env) QI E' s₂) E' s₁)
    (done : ∀ l s₁ G (E' : Value → Shared → Prop), BareG G → Inv n l → S (C.wg G) l s₁ → wpAny (model prog w) A (execs orelse env) (fun f s₃ => R (.ok f) s₃) E' s₁) :
    codeAny (model prog w) A (.forLoop (.Name x p) (.ref it) body orelse env) R s := by
  refine codeAny_forLoop (fun m s => ∃ i l G, m = n - i ∧ i ≤ n ∧ Inv i l ∧ BareG G ∧ S (C.wg G) ((it, P i) :: l) s) (fun m s₀ ⟨i, l, G, hm, hi, hI, hG, Hs⟩ => ?_) n ⟨0, its, G, rfl, Nat.zero_le _, h0, hG, H⟩
  by_cases hlt : i < n
  · refine (N G).next A l s₀ _ _ i hA Hs (hneed i l hI) hlt fun v s' he H' => ?_
    refine wpAny_assign_Name (wpAny_mono (turn i v l s' G _ hlt he hI hG H' (fun f s => f = .next ∧ ∃ l G, BareG G ∧ Inv (i + 1) l ∧ S (C.wg G) ((it, P (i + 1)) :: l) s) fun s l G h1 h2 h3 => ⟨rfl, l, G, h1, h2, h3⟩) (fun _ s₂ h₂ => wpAny_mono h₂ (fun f s₃ h₃ => ?_) fun _ _ e => e) fun _ _ e => e)
    obtain ⟨rfl, l', G', a, b, c⟩ := h₃
    exact ⟨n - (i + 1), by omega, i + 1, l', G', rfl, hlt, b, a, c⟩
  · have hin : i = n := by omega
    subst hin
    exact (N G).stop A l s₀ _ _ hA Hs (hneed i l hI) fun s' H' => done l s' G _ hG hI H'
end
end Mc

namespace Mc
/-- the top's run over a tree of objects -/
noncomputable def topRunT (tb : String → Option Builtin) (p : Program) (w : World) (n₀ : Nat) (ann : Option Value) : Nat → SharedT → Thread → Option SharedT
  | 0, _, _ => none
  | n + 1, s, t => match through t with
    | true => some s
    | false => match stepOk n₀ ann t with
      | false => none
      | true => match stepT (denote tb) p w s t with
        | some (s', t') => topRunT tb p w n₀ ann n s' t'
        | none => none
theorem topRunT_of {tb : String → Option Builtin} {p : Program} {w : World} {n₀ : Nat} {ann : Option Value} : ∀ {n : Nat} {s s' : SharedT} {t : Thread}, topRunT tb p w n₀ ann n s t = some s' → topRun tb p w n₀ ann n s.abs t = some s'.abs
  | 0, _, _, _, h => by cases h
  | n + 1, s, s', t, h => by
    unfold topRunT at h
    unfold topRun
    cases he : through t with
    | true => rw [he] at h; cases h; rfl
    | false =>
      rw [he] at h
      cases hk : stepOk n₀ ann t with
      | false => rw [hk] at h; cases h
      | true =>
        rw [hk] at h
        cases hs : stepT (denote tb) p w s t with
        | none => rw [hs] at h; cases h
        | some r => obtain ⟨s₂, t₂⟩ := r; rw [hs] at h; rw [stepT_spec hs]; exact topRunT_of h
noncomputable def insAll : Nat → List Obj → BT → BT
  | _, [], t => t
  | i, o :: r, t => insAll (i + 1) r (t.ins i o)
/-- the run's end, looked at -/
noncomputable def looked (p q : Program) (loose : List Str) (Xt : Shared → Bool) {α : Type} (Yf : Shared → α) (h₀ : Heap) (s : Shared) :=
  match staticsOk (importedModules p.main.body) h₀ s.heap && namesBound p s.heap && gensDone s && laidKept h₀ s.heap with
  | true => some (openSeen q loose (importedModules p.main.body) Xt true s, Yf s)
  | false => none
noncomputable def bootT (P : Params) : BT := insAll 0 (boot_heap P).objs.toList .nil
noncomputable def bootS (P : Params) (n : Nat) (os : OsState) : SharedT := ⟨bootT P, n, (boot_heap P).life, Array.mk [], boot_drawn, boot_toks, os⟩
theorem left_of {p q : Program} {loose : List Str} {Xt : Shared → Bool} {α : Type} {Yf : Shared → α} {Ya : World → α} {N n : Nat} {ann : Option Value} (row : String)
    (e : opening p = plainProg p.main.scope.names) (hN : Nat.ble 600 N = true) (f : ∀ s, fenceModules? p s = some s)
    (hb : ∀ P, absHeap (bootT P) n (boot_heap P).life = boot_heap P) (hs : ∀ P, ((boot_heap P).isNs mainGlobals, (boot_heap P).objs.size, (boot_heap P).nsMap mainGlobals "__annotations__") = (true, n, ann))
    (run : ∀ (b : Bool) (w : World), (fun os => (topRunT treeTable p (w.withFollow row b) n ann N (bootS w.params n os) (topStub p)).bind fun s => looked p q loose Xt Yf (boot_heap w.params) s.abs) = fun _ => some (openGood q loose, Ya (w.withFollow row b))) :
    LeftO p q loose Xt Yf Ya N := by
  intro w
  obtain ⟨s, hs1, hs2⟩ := Option.map_eq_some_iff.mp (boot_open e hN f w)
  obtain ⟨h, gs, d, k, os⟩ := s
  obtain ⟨rfl, rfl, rfl, rfl⟩ : h = boot_heap w.params ∧ gs = Array.mk [] ∧ d = boot_drawn ∧ k = boot_toks := by simpa using hs2
  obtain ⟨z1, z2, z3⟩ : _ ∧ _ ∧ _ := by simpa only [Prod.mk.injEq] using hs w.params
  have r := congrFun (run (w.params.followText row) w) os
  rw [World.withFollow_self] at r
  obtain ⟨s₁, r1, r2⟩ := Option.bind_eq_some_iff.mp r
  have r1 := topRunT_of r1
  have eS : (bootS w.params n os).abs = ⟨boot_heap w.params, Array.mk [], boot_drawn, boot_toks, os⟩ := by
    show (⟨absHeap (bootT w.params) n (boot_heap w.params).life, _, _, _, _⟩ : Shared) = _
    rw [hb]; rfl
  rw [eS] at r1
  unfold openEnds
  rw [hs1]
  show (topFrom treeTable p w N _).map _ = _
  unfold topFrom
  dsimp only
  rw [z1, z2, z3, r1]
  unfold looked at r2
  cases hq : staticsOk (importedModules p.main.body) (boot_heap w.params) s₁.abs.heap && namesBound p s₁.abs.heap && gensDone s₁.abs && laidKept (boot_heap w.params) s₁.abs.heap with
  | false => rw [hq] at r2; cases r2
  | true =>
    rw [hq] at r2
    show ((some s₁.abs).bind _).map _ = _
    simp only [Option.bind_some, hq, Option.map_some]
    exact r2
end Mc

namespace Mc
/-- the program -/
noncomputable abbrev PP : Program := PySem.Challenge.pw_iu0043_04
noncomputable def stAt : List Stmt → Nat → Stmt
  | [], _ => .Pass ⟨0, 0, 0, 0⟩
  | x :: _, 0 => x
  | _ :: r, n + 1 => stAt r n
noncomputable def clB : Stmt → List Stmt
  | .ClassDef _ _ _ b _ _ _ _ _ _ _ => b
  | _ => []
/-- a def of the text, a method of it -/
noncomputable def f1 (i : Nat) : Stmt := stAt PP.main.body i
noncomputable def f2 (i j : Nat) : Stmt := stAt (clB (f1 i)) j
/-- the object that a def makes -/
noncomputable def fnO (st : Stmt) (qual : Str) (dv kv doc pm code : Value) : Obj := match st with
  | .FunctionDef name ps body _ _ _ sc _ _ _ => ⟨.type "function", .none, .func ⟨name, qual, ps, .stmts body, sc, 3, [], dv, kv, doc, pm, .none, code, .none, 0⟩, ⟨[]⟩⟩
  | _ => ⟨.none, .none, .plain, ⟨[]⟩⟩
noncomputable abbrev kh : Params → Str → Int := PyData.keyHash
/-- what stands behind the top -/
noncomputable def hK : Params → Frag := fun P =>
(nat_lit 2,⟨.none,.none,.dict ⟨[]⟩ 0,⟨[]⟩⟩) ::
(nat_lit 3,⟨.type "dict",.none,.dict ⟨[⟨(kh P "__name__"),.str "__name__" 165,.str "law_iu0043_04" 692⟩,⟨(kh P "__doc__"),.str "__doc__" 166,.none⟩,⟨(kh P "__package__"),.str "__package__" 167,.none⟩,⟨(kh P "__loader__"),.str "__loader__" 168,.builtin "__main__.__loader__#opaque"⟩,⟨(kh P "__spec__"),.str "__spec__" 169,.none⟩,⟨(kh P "__annotations__"),.str "__annotations__" 170,.ref 6⟩,⟨(kh P "__builtins__"),.str "__builtins__" 171,.ref 4⟩,⟨(kh P "__file__"),.str "__file__" 173,.str "/claim/cut.py" 172⟩,⟨(kh P "__cached__"),.str "__cached__" 174,.none⟩,⟨(kh P "_wall"),.str "_wall" 193,.ref 21⟩,⟨(kh P "insort"),.str "insort" 206,.ref 28⟩,⟨(kh P "KetamaRing"),.str "KetamaRing" 291,.ref 75⟩,⟨(kh P "MetaRing"),.str "MetaRing" 361,.ref 118⟩,⟨(kh P "bisect"),.str "bisect" 374,.ref 129⟩,⟨(kh P "HashRing"),.str "HashRing" 691,.ref 392⟩,⟨(kh P "_law_take"),.str "_law_take" 700,.ref 403⟩,⟨(kh P "law"),.str "law" 706,.ref 408⟩]⟩ 17,⟨[]⟩⟩) ::
(nat_lit 15,⟨.type "tuple",.none,.seq ⟨[]⟩ 0,⟨[]⟩⟩) ::
(nat_lit 17,⟨.type "tuple",.none,.seq ⟨[.str "k" 190]⟩ 0,⟨[]⟩⟩) ::
(nat_lit 18,⟨.type "tuple",.none,.seq ⟨[]⟩ 0,⟨[]⟩⟩) ::
(nat_lit 20,⟨.type "code",.none,.fields ⟨[.str "_wall" 187,.str "_wall" 188,.str "/claim/cut.py" 189,.int 1 0,.int 1 0,.int 0 0,.int 0 0,.int 3 0,.ref 15,.bool .true,.int 181 0,.ref 16,.none,.ref 17,.ref 18,.ref 19,.int 191 0,.int 1 0,.str "/claim/cut.py" 192]⟩,⟨[]⟩⟩) ::
(nat_lit 21,fnO (f1 0) "_wall" .none .none .none (.str "__main__" 164) (.ref 20)) ::
(nat_lit 22,⟨.type "tuple",.none,.seq ⟨[]⟩ 0,⟨[]⟩⟩) ::
(nat_lit 24,⟨.type "tuple",.none,.seq ⟨[.str "rows" 199,.str "one" 200,.str "low" 201,.str "high" 202,.str "mid" 203]⟩ 0,⟨[]⟩⟩) ::
(nat_lit 25,⟨.type "tuple",.none,.seq ⟨[]⟩ 0,⟨[]⟩⟩) ::
(nat_lit 27,⟨.type "code",.none,.fields ⟨[.str "insort" 196,.str "insort" 197,.str "/claim/cut.py" 198,.int 5 0,.int 2 0,.int 0 0,.int 0 0,.int 3 0,.ref 22,.bool .true,.int 181 0,.ref 23,.none,.ref 24,.ref 25,.ref 26,.int 204 0,.int 5 0,.str "/claim/cut.py" 205]⟩,⟨[]⟩⟩) ::
(nat_lit 28,fnO (f1 2) "insort" .none .none .none (.str "uhashring.ring_ketama" 194) (.ref 27)) ::
(nat_lit 36,⟨.type "tuple",.none,.seq ⟨[.int 4 219,.none]⟩ 0,⟨[]⟩⟩) ::
(nat_lit 37,⟨.type "tuple",.none,.seq ⟨[]⟩ 0,⟨[]⟩⟩) ::
(nat_lit 39,⟨.type "tuple",.none,.seq ⟨[.str "self" 223,.str "replicas" 224,.str "md5" 225]⟩ 0,⟨[]⟩⟩) ::
(nat_lit 40,⟨.type "tuple",.none,.seq ⟨[]⟩ 0,⟨[]⟩⟩) ::
(nat_lit 42,⟨.type "code",.none,.fields ⟨[.str "__init__" 220,.str "KetamaRing.__init__" 221,.str "/claim/cut.py" 222,.int 16 0,.int 3 0,.int 0 0,.int 0 0,.int 3 0,.ref 37,.bool .true,.int 181 0,.ref 38,.none,.ref 39,.ref 40,.ref 41,.int 226 0,.int 16 0,.str "/claim/cut.py" 227]⟩,⟨[]⟩⟩) ::
(nat_lit 43,fnO (f2 3 0) "KetamaRing.__init__" (.ref 36) .none .none (.str "uhashring.ring_ketama" 194) (.ref 42)) ::
(nat_lit 44,⟨.type "tuple",.none,.seq ⟨[.int 0 229]⟩ 0,⟨[]⟩⟩) ::
(nat_lit 45,⟨.type "tuple",.none,.seq ⟨[]⟩ 0,⟨[]⟩⟩) ::
(nat_lit 47,⟨.type "tuple",.none,.seq ⟨[.str "self" 233,.str "key" 234,.str "replica" 235,.str "dh" 236,.str "rd" 237]⟩ 0,⟨[]⟩⟩) ::
(nat_lit 48,⟨.type "tuple",.none,.seq ⟨[]⟩ 0,⟨[]⟩⟩) ::
(nat_lit 50,⟨.type "code",.none,.fields ⟨[.str "hashi" 230,.str "KetamaRing.hashi" 231,.str "/claim/cut.py" 232,.int 24 0,.int 3 0,.int 0 0,.int 0 0,.int 3 0,.ref 45,.bool .true,.int 181 0,.ref 46,.none,.ref 47,.ref 48,.ref 49,.int 238 0,.int 24 0,.str "/claim/cut.py" 239]⟩,⟨[]⟩⟩) ::
(nat_lit 51,fnO (f2 3 1) "KetamaRing.hashi" (.ref 44) .none .none (.str "uhashring.ring_ketama" 194) (.ref 50)) ::
(nat_lit 52,⟨.type "tuple",.none,.seq ⟨[]⟩ 0,⟨[]⟩⟩) ::
(nat_lit 54,⟨.type "tuple",.none,.seq ⟨[.str "self" 244,.str "node_name" 245,.str "node_conf" 246,.str "ks" 247,.str "w" 248,.str "w_node_name" 249,.str "i" 250]⟩ 0,⟨[]⟩⟩) ::
(nat_lit 55,⟨.type "tuple",.none,.seq ⟨[]⟩ 0,⟨[]⟩⟩) ::
(nat_lit 57,⟨.type "code",.none,.fields ⟨[.str "_hashi_weight_generator" 241,.str "KetamaRing._hashi_weight_generator" 242,.str "/claim/cut.py" 243,.int 29 0,.int 3 0,.int 0 0,.int 0 0,.int 35 0,.ref 52,.bool .true,.int 181 0,.ref 53,.none,.ref 54,.ref 55,.ref 56,.int 251 0,.int 29 0,.str "/claim/cut.py" 252]⟩,⟨[]⟩⟩) ::
(nat_lit 58,fnO (f2 3 2) "KetamaRing._hashi_weight_generator" .none .none .none (.str "uhashring.ring_ketama" 194) (.ref 57)) ::
(nat_lit 59,⟨.type "tuple",.none,.seq ⟨[]⟩ 0,⟨[]⟩⟩) ::
(nat_lit 61,⟨.type "tuple",.none,.seq ⟨[.str "self" 257,.str "nodes" 258,.str "_weight_sum" 259,.str "node_conf" 260,.str "_distribution" 261,.str "_keys" 262,.str "_ring" 263,.str "node_name" 264,.str "h" 265]⟩ 0,⟨[]⟩⟩) ::
(nat_lit 62,⟨.type "tuple",.none,.seq ⟨[]⟩ 0,⟨[]⟩⟩) ::
(nat_lit 64,⟨.type "code",.none,.fields ⟨[.str "_create_ring" 254,.str "KetamaRing._create_ring" 255,.str "/claim/cut.py" 256,.int 36 0,.int 2 0,.int 0 0,.int 0 0,.int 3 0,.ref 59,.bool .true,.int 181 0,.ref 60,.none,.ref 61,.ref 62,.ref 63,.int 266 0,.int 36 0,.str "/claim/cut.py" 267]⟩,⟨[]⟩⟩) ::
(nat_lit 65,fnO (f2 3 3) "KetamaRing._create_ring" .none .none .none (.str "uhashring.ring_ketama" 194) (.ref 64)) ::
(nat_lit 66,⟨.type "tuple",.none,.seq ⟨[]⟩ 0,⟨[]⟩⟩) ::
(nat_lit 68,⟨.type "tuple",.none,.seq ⟨[.str "self" 272,.str "node_name" 273]⟩ 0,⟨[]⟩⟩) ::
(nat_lit 69,⟨.type "tuple",.none,.seq ⟨[]⟩ 0,⟨[]⟩⟩) ::
(nat_lit 71,⟨.type "code",.none,.fields ⟨[.str "_remove_node" 269,.str "KetamaRing._remove_node" 270,.str "/claim/cut.py" 271,.int 53 0,.int 2 0,.int 0 0,.int 0 0,.int 3 0,.ref 66,.bool .true,.int 181 0,.ref 67,.none,.ref 68,.ref 69,.ref 70,.int 274 0,.int 53 0,.str "/claim/cut.py" 275]⟩,⟨[]⟩⟩) ::
(nat_lit 72,fnO (f2 3 4) "KetamaRing._remove_node" .none .none .none (.str "uhashring.ring_ketama" 194) (.ref 71)) ::
(nat_lit 73,⟨.type "tuple",.none,.seq ⟨[.str "_distribution" 277,.str "_keys" 278,.str "_md5" 279,.str "_nodes" 280,.str "_replicas" 281,.str "_ring" 282,.str "_weight_sum" 283]⟩ 0,⟨[]⟩⟩) ::
(nat_lit 74,⟨.type "dict",.none,.dict ⟨[⟨(kh P "__module__"),.str "__module__" 214,.str "uhashring.ring_ketama" 194⟩,⟨(kh P "__firstlineno__"),.str "__firstlineno__" 218,.int 14 217⟩,⟨(kh P "__init__"),.str "__init__" 228,.ref 43⟩,⟨(kh P "hashi"),.str "hashi" 240,.ref 51⟩,⟨(kh P "_hashi_weight_generator"),.str "_hashi_weight_generator" 253,.ref 58⟩,⟨(kh P "_create_ring"),.str "_create_ring" 268,.ref 65⟩,⟨(kh P "_remove_node"),.str "_remove_node" 276,.ref 72⟩,⟨(kh P "__static_attributes__"),.str "__static_attributes__" 284,.ref 73⟩,⟨(kh P "__dict__"),.str "__dict__" 286,.ref 76⟩,⟨(kh P "__weakref__"),.str "__weakref__" 288,.ref 77⟩,⟨(kh P "__doc__"),.str "__doc__" 289,.none⟩]⟩ 4,⟨[]⟩⟩) ::
(nat_lit 75,⟨.type "type",.none,.cls ⟨"KetamaRing",[.type "object"],[.ref 75,.type "object"],74,"KetamaRing",.true,[],[],.false,.none,.false⟩,⟨[.none,.none,.some (.str "KetamaRing" 207),.some (.str "KetamaRing" 215),.some (.builtin "object.__new__"),.some (.bool .true)]⟩⟩) ::
(nat_lit 76,⟨.type "getset_descriptor",.none,.fields ⟨[.str "__dict__" 285,.ref 75,.builtin "function.__dict__",.builtin "function.__dict__#set"]⟩,⟨[]⟩⟩) ::
(nat_lit 77,⟨.type "getset_descriptor",.none,.fields ⟨[.str "__weakref__" 287,.ref 75,.builtin "ExceptionGroup.__weakref__",.none]⟩,⟨[]⟩⟩) ::
(nat_lit 87,⟨.type "tuple",.none,.seq ⟨[.none]⟩ 0,⟨[]⟩⟩) ::
(nat_lit 88,⟨.type "tuple",.none,.seq ⟨[]⟩ 0,⟨[]⟩⟩) ::
(nat_lit 90,⟨.type "tuple",.none,.seq ⟨[.str "self" 309,.str "hash_fn" 310,.str "md5" 311]⟩ 0,⟨[]⟩⟩) ::
(nat_lit 91,⟨.type "tuple",.none,.seq ⟨[.str "md5" 312]⟩ 0,⟨[]⟩⟩) ::
(nat_lit 93,⟨.type "code",.none,.fields ⟨[.str "__init__" 306,.str "MetaRing.__init__" 307,.str "/claim/cut.py" 308,.int 61 0,.int 3 0,.int 0 0,.int 0 0,.int 3 0,.ref 88,.bool .true,.int 181 0,.ref 89,.none,.ref 90,.ref 91,.ref 92,.int 313 0,.int 61 0,.str "/claim/cut.py" 314]⟩,⟨[]⟩⟩) ::
(nat_lit 94,fnO (f2 5 0) "MetaRing.__init__" (.ref 87) .none .none (.str "uhashring.ring_meta" 292) (.ref 93)) ::
(nat_lit 95,⟨.type "tuple",.none,.seq ⟨[]⟩ 0,⟨[]⟩⟩) ::
(nat_lit 97,⟨.type "tuple",.none,.seq ⟨[.str "self" 319,.str "key" 320]⟩ 0,⟨[]⟩⟩) ::
(nat_lit 98,⟨.type "tuple",.none,.seq ⟨[]⟩ 0,⟨[]⟩⟩) ::
(nat_lit 100,⟨.type "code",.none,.fields ⟨[.str "hashi" 316,.str "MetaRing.hashi" 317,.str "/claim/cut.py" 318,.int 71 0,.int 2 0,.int 0 0,.int 0 0,.int 3 0,.ref 95,.bool .true,.int 181 0,.ref 96,.none,.ref 97,.ref 98,.ref 99,.int 321 0,.int 71 0,.str "/claim/cut.py" 322]⟩,⟨[]⟩⟩) ::
(nat_lit 101,fnO (f2 5 1) "MetaRing.hashi" .none .none .none (.str "uhashring.ring_meta" 292) (.ref 100)) ::
(nat_lit 102,⟨.type "tuple",.none,.seq ⟨[]⟩ 0,⟨[]⟩⟩) ::
(nat_lit 104,⟨.type "tuple",.none,.seq ⟨[.str "self" 327,.str "nodes" 328,.str "node_name" 329,.str "node_conf" 330,.str "old_points" 331,.str "point" 332,.str "new_points" 333,.str "w" 334]⟩ 0,⟨[]⟩⟩) ::
(nat_lit 105,⟨.type "tuple",.none,.seq ⟨[]⟩ 0,⟨[]⟩⟩) ::
(nat_lit 107,⟨.type "code",.none,.fields ⟨[.str "_create_ring" 324,.str "MetaRing._create_ring" 325,.str "/claim/cut.py" 326,.int 74 0,.int 2 0,.int 0 0,.int 0 0,.int 3 0,.ref 102,.bool .true,.int 181 0,.ref 103,.none,.ref 104,.ref 105,.ref 106,.int 335 0,.int 74 0,.str "/claim/cut.py" 336]⟩,⟨[]⟩⟩) ::
(nat_lit 108,fnO (f2 5 2) "MetaRing._create_ring" .none .none .none (.str "uhashring.ring_meta" 292) (.ref 107)) ::
(nat_lit 109,⟨.type "tuple",.none,.seq ⟨[]⟩ 0,⟨[]⟩⟩) ::
(nat_lit 111,⟨.type "tuple",.none,.seq ⟨[.str "self" 341,.str "node_name" 342,.str "points" 343,.str "point" 344]⟩ 0,⟨[]⟩⟩) ::
(nat_lit 112,⟨.type "tuple",.none,.seq ⟨[]⟩ 0,⟨[]⟩⟩) ::
(nat_lit 114,⟨.type "code",.none,.fields ⟨[.str "_remove_node" 338,.str "MetaRing._remove_node" 339,.str "/claim/cut.py" 340,.int 91 0,.int 2 0,.int 0 0,.int 0 0,.int 3 0,.ref 109,.bool .true,.int 181 0,.ref 110,.none,.ref 111,.ref 112,.ref 113,.int 345 0,.int 91 0,.str "/claim/cut.py" 346]⟩,⟨[]⟩⟩) ::
(nat_lit 115,fnO (f2 5 3) "MetaRing._remove_node" .none .none .none (.str "uhashring.ring_meta" 292) (.ref 114)) ::
(nat_lit 116,⟨.type "tuple",.none,.seq ⟨[.str "_distribution" 348,.str "_hash_fn" 349,.str "_keys" 350,.str "_node_points" 351,.str "_nodes" 352,.str "_ring" 353]⟩ 0,⟨[]⟩⟩) ::
(nat_lit 117,⟨.type "dict",.none,.dict ⟨[⟨(kh P "__module__"),.str "__module__" 301,.str "uhashring.ring_meta" 292⟩,⟨(kh P "__firstlineno__"),.str "__firstlineno__" 305,.int 59 304⟩,⟨(kh P "__init__"),.str "__init__" 315,.ref 94⟩,⟨(kh P "hashi"),.str "hashi" 323,.ref 101⟩,⟨(kh P "_create_ring"),.str "_create_ring" 337,.ref 108⟩,⟨(kh P "_remove_node"),.str "_remove_node" 347,.ref 115⟩,⟨(kh P "__static_attributes__"),.str "__static_attributes__" 354,.ref 116⟩,⟨(kh P "__dict__"),.str "__dict__" 356,.ref 119⟩,⟨(kh P "__weakref__"),.str "__weakref__" 358,.ref 120⟩,⟨(kh P "__doc__"),.str "__doc__" 359,.none⟩]⟩ 4,⟨[]⟩⟩) ::
(nat_lit 118,⟨.type "type",.none,.cls ⟨"MetaRing",[.type "object"],[.ref 118,.type "object"],117,"MetaRing",.true,[],[],.false,.none,.false⟩,⟨[.none,.none,.some (.str "MetaRing" 294),.some (.str "MetaRing" 302),.some (.builtin "object.__new__"),.some (.bool .true)]⟩⟩) ::
(nat_lit 119,⟨.type "getset_descriptor",.none,.fields ⟨[.str "__dict__" 355,.ref 118,.builtin "function.__dict__",.builtin "function.__dict__#set"]⟩,⟨[]⟩⟩) ::
(nat_lit 120,⟨.type "getset_descriptor",.none,.fields ⟨[.str "__weakref__" 357,.ref 118,.builtin "ExceptionGroup.__weakref__",.none]⟩,⟨[]⟩⟩) ::
(nat_lit 123,⟨.type "tuple",.none,.seq ⟨[]⟩ 0,⟨[]⟩⟩) ::
(nat_lit 125,⟨.type "tuple",.none,.seq ⟨[.str "rows" 367,.str "one" 368,.str "low" 369,.str "high" 370,.str "mid" 371]⟩ 0,⟨[]⟩⟩) ::
(nat_lit 126,⟨.type "tuple",.none,.seq ⟨[]⟩ 0,⟨[]⟩⟩) ::
(nat_lit 128,⟨.type "code",.none,.fields ⟨[.str "bisect" 364,.str "bisect" 365,.str "/claim/cut.py" 366,.int 103 0,.int 2 0,.int 0 0,.int 0 0,.int 3 0,.ref 123,.bool .true,.int 181 0,.ref 124,.none,.ref 125,.ref 126,.ref 127,.int 372 0,.int 103 0,.str "/claim/cut.py" 373]⟩,⟨[]⟩⟩) ::
(nat_lit 129,fnO (f1 7) "bisect" .none .none .none (.str "uhashring.ring" 362) (.ref 128)) ::
(nat_lit 137,⟨.type "list",.none,.seq ⟨[]⟩ 0,⟨[]⟩⟩) ::
(nat_lit 138,⟨.type "tuple",.none,.seq ⟨[.ref 137]⟩ 0,⟨[]⟩⟩) ::
(nat_lit 139,⟨.type "tuple",.none,.seq ⟨[]⟩ 0,⟨[]⟩⟩) ::
(nat_lit 142,⟨.type "code",.none,.fields ⟨[.str "__init__" 387,.str "HashRing.__init__" 388,.str "/claim/cut.py" 389,.int 114 0,.int 2 0,.int 0 0,.int 0 0,.int 11 0,.ref 139,.bool .true,.int 181 0,.ref 140,.none,.none,.none,.ref 141,.int 390 0,.int 114 0,.str "/claim/cut.py" 391]⟩,⟨[]⟩⟩) ::
(nat_lit 143,fnO (f2 8 0) "HashRing.__init__" (.ref 138) .none .none (.str "uhashring.ring" 362) (.ref 142)) ::
(nat_lit 144,⟨.type "tuple",.none,.seq ⟨[]⟩ 0,⟨[]⟩⟩) ::
(nat_lit 146,⟨.type "tuple",.none,.seq ⟨[.str "self" 396,.str "key" 397]⟩ 0,⟨[]⟩⟩) ::
(nat_lit 147,⟨.type "tuple",.none,.seq ⟨[]⟩ 0,⟨[]⟩⟩) ::
(nat_lit 149,⟨.type "code",.none,.fields ⟨[.str "hashi" 393,.str "HashRing.hashi" 394,.str "/claim/cut.py" 395,.int 134 0,.int 2 0,.int 0 0,.int 0 0,.int 3 0,.ref 144,.bool .true,.int 181 0,.ref 145,.none,.ref 146,.ref 147,.ref 148,.int 398 0,.int 134 0,.str "/claim/cut.py" 399]⟩,⟨[]⟩⟩) ::
(nat_lit 150,fnO (f2 8 1) "HashRing.hashi" .none .none .none (.str "uhashring.ring" 362) (.ref 149)) ::
(nat_lit 151,⟨.type "tuple",.none,.seq ⟨[]⟩ 0,⟨[]⟩⟩) ::
(nat_lit 153,⟨.type "tuple",.none,.seq ⟨[.str "self" 404,.str "nodes" 405,.str "conf_changed" 406,.str "node" 407,.str "conf" 408,.str "current_conf" 409,.str "nodename" 410,.str "node_conf" 411,.str "k" 412,.str "v" 413]⟩ 0,⟨[]⟩⟩) ::
(nat_lit 154,⟨.type "tuple",.none,.seq ⟨[]⟩ 0,⟨[]⟩⟩) ::
(nat_lit 156,⟨.type "code",.none,.fields ⟨[.str "_configure_nodes" 401,.str "HashRing._configure_nodes" 402,.str "/claim/cut.py" 403,.int 137 0,.int 2 0,.int 0 0,.int 0 0,.int 3 0,.ref 151,.bool .true,.int 181 0,.ref 152,.none,.ref 153,.ref 154,.ref 155,.int 414 0,.int 137 0,.str "/claim/cut.py" 415]⟩,⟨[]⟩⟩) ::
(nat_lit 157,fnO (f2 8 2) "HashRing._configure_nodes" .none .none .none (.str "uhashring.ring" 362) (.ref 156)) ::
(nat_lit 158,⟨.type "tuple",.none,.seq ⟨[]⟩ 0,⟨[]⟩⟩) ::
(nat_lit 160,⟨.type "tuple",.none,.seq ⟨[.str "self" 420,.str "nodename" 421]⟩ 0,⟨[]⟩⟩) ::
(nat_lit 161,⟨.type "tuple",.none,.seq ⟨[]⟩ 0,⟨[]⟩⟩) ::
(nat_lit 163,⟨.type "code",.none,.fields ⟨[.str "__delitem__" 417,.str "HashRing.__delitem__" 418,.str "/claim/cut.py" 419,.int 169 0,.int 2 0,.int 0 0,.int 0 0,.int 3 0,.ref 158,.bool .true,.int 181 0,.ref 159,.none,.ref 160,.ref 161,.ref 162,.int 422 0,.int 169 0,.str "/claim/cut.py" 423]⟩,⟨[]⟩⟩) ::
(nat_lit 164,fnO (f2 8 3) "HashRing.__delitem__" .none .none .none (.str "uhashring.ring" 362) (.ref 163)) ::
(nat_lit 165,⟨.type "tuple",.none,.seq ⟨[]⟩ 0,⟨[]⟩⟩) ::
(nat_lit 167,⟨.type "tuple",.none,.seq ⟨[.str "self" 428,.str "nodename" 429]⟩ 0,⟨[]⟩⟩) ::
(nat_lit 168,⟨.type "tuple",.none,.seq ⟨[]⟩ 0,⟨[]⟩⟩) ::
(nat_lit 170,⟨.type "code",.none,.fields ⟨[.str "remove_node" 425,.str "HashRing.remove_node" 426,.str "/claim/cut.py" 427,.int 172 0,.int 2 0,.int 0 0,.int 0 0,.int 3 0,.ref 165,.bool .true,.int 181 0,.ref 166,.none,.ref 167,.ref 168,.ref 169,.int 430 0,.int 172 0,.str "/claim/cut.py" 431]⟩,⟨[]⟩⟩) ::
(nat_lit 171,fnO (f2 8 4) "HashRing.remove_node" .none .none .none (.str "uhashring.ring" 362) (.ref 170)) ::
(nat_lit 172,⟨.type "tuple",.none,.seq ⟨[]⟩ 0,⟨[]⟩⟩) ::
(nat_lit 174,⟨.type "tuple",.none,.seq ⟨[.str "self" 436,.str "key" 437]⟩ 0,⟨[]⟩⟩) ::
(nat_lit 175,⟨.type "tuple",.none,.seq ⟨[]⟩ 0,⟨[]⟩⟩) ::
(nat_lit 177,⟨.type "code",.none,.fields ⟨[.str "__getitem__" 433,.str "HashRing.__getitem__" 434,.str "/claim/cut.py" 435,.int 175 0,.int 2 0,.int 0 0,.int 0 0,.int 3 0,.ref 172,.bool .true,.int 181 0,.ref 173,.none,.ref 174,.ref 175,.ref 176,.int 438 0,.int 175 0,.str "/claim/cut.py" 439]⟩,⟨[]⟩⟩) ::
(nat_lit 178,fnO (f2 8 5) "HashRing.__getitem__" .none .none .none (.str "uhashring.ring" 362) (.ref 177)) ::
(nat_lit 179,⟨.type "tuple",.none,.seq ⟨[]⟩ 0,⟨[]⟩⟩) ::
(nat_lit 181,⟨.type "tuple",.none,.seq ⟨[.str "self" 444,.str "key" 445]⟩ 0,⟨[]⟩⟩) ::
(nat_lit 182,⟨.type "tuple",.none,.seq ⟨[]⟩ 0,⟨[]⟩⟩) ::
(nat_lit 184,⟨.type "code",.none,.fields ⟨[.str "get_node_instance" 441,.str "HashRing.get_node_instance" 442,.str "/claim/cut.py" 443,.int 178 0,.int 2 0,.int 0 0,.int 0 0,.int 3 0,.ref 179,.bool .true,.int 181 0,.ref 180,.none,.ref 181,.ref 182,.ref 183,.int 446 0,.int 178 0,.str "/claim/cut.py" 447]⟩,⟨[]⟩⟩) ::
(nat_lit 185,fnO (f2 8 6) "HashRing.get_node_instance" .none .none .none (.str "uhashring.ring" 362) (.ref 184)) ::
(nat_lit 186,⟨.type "dict",.none,.dict ⟨[⟨(kh P "weight"),.str "weight" 449,.int 1 450⟩]⟩ 1,⟨[]⟩⟩) ::
(nat_lit 187,⟨.type "tuple",.none,.seq ⟨[.ref 186]⟩ 0,⟨[]⟩⟩) ::
(nat_lit 188,⟨.type "tuple",.none,.seq ⟨[]⟩ 0,⟨[]⟩⟩) ::
(nat_lit 190,⟨.type "tuple",.none,.seq ⟨[.str "self" 455,.str "nodename" 456,.str "conf" 457]⟩ 0,⟨[]⟩⟩) ::
(nat_lit 191,⟨.type "tuple",.none,.seq ⟨[]⟩ 0,⟨[]⟩⟩) ::
(nat_lit 193,⟨.type "code",.none,.fields ⟨[.str "__setitem__" 452,.str "HashRing.__setitem__" 453,.str "/claim/cut.py" 454,.int 181 0,.int 3 0,.int 0 0,.int 0 0,.int 3 0,.ref 188,.bool .true,.int 181 0,.ref 189,.none,.ref 190,.ref 191,.ref 192,.int 458 0,.int 181 0,.str "/claim/cut.py" 459]⟩,⟨[]⟩⟩) ::
(nat_lit 194,fnO (f2 8 7) "HashRing.__setitem__" (.ref 187) .none .none (.str "uhashring.ring" 362) (.ref 193)) ::
(nat_lit 195,⟨.type "dict",.none,.dict ⟨[⟨(kh P "weight"),.str "weight" 461,.int 1 462⟩]⟩ 1,⟨[]⟩⟩) ::
(nat_lit 196,⟨.type "tuple",.none,.seq ⟨[.ref 195]⟩ 0,⟨[]⟩⟩) ::
(nat_lit 197,⟨.type "tuple",.none,.seq ⟨[]⟩ 0,⟨[]⟩⟩) ::
(nat_lit 199,⟨.type "tuple",.none,.seq ⟨[.str "self" 467,.str "nodename" 468,.str "conf" 469]⟩ 0,⟨[]⟩⟩) ::
(nat_lit 200,⟨.type "tuple",.none,.seq ⟨[]⟩ 0,⟨[]⟩⟩) ::
(nat_lit 202,⟨.type "code",.none,.fields ⟨[.str "add_node" 464,.str "HashRing.add_node" 465,.str "/claim/cut.py" 466,.int 185 0,.int 3 0,.int 0 0,.int 0 0,.int 3 0,.ref 197,.bool .true,.int 181 0,.ref 198,.none,.ref 199,.ref 200,.ref 201,.int 470 0,.int 185 0,.str "/claim/cut.py" 471]⟩,⟨[]⟩⟩) ::
(nat_lit 203,fnO (f2 8 8) "HashRing.add_node" (.ref 196) .none .none (.str "uhashring.ring" 362) (.ref 202)) ::
(nat_lit 204,⟨.type "tuple",.none,.seq ⟨[]⟩ 0,⟨[]⟩⟩) ::
(nat_lit 206,⟨.type "tuple",.none,.seq ⟨[.str "self" 476,.str "key" 477,.str "p" 478]⟩ 0,⟨[]⟩⟩) ::
(nat_lit 207,⟨.type "tuple",.none,.seq ⟨[]⟩ 0,⟨[]⟩⟩) ::
(nat_lit 209,⟨.type "code",.none,.fields ⟨[.str "_get_pos" 473,.str "HashRing._get_pos" 474,.str "/claim/cut.py" 475,.int 189 0,.int 2 0,.int 0 0,.int 0 0,.int 3 0,.ref 204,.bool .true,.int 181 0,.ref 205,.none,.ref 206,.ref 207,.ref 208,.int 479 0,.int 189 0,.str "/claim/cut.py" 480]⟩,⟨[]⟩⟩) ::
(nat_lit 210,fnO (f2 8 9) "HashRing._get_pos" .none .none .none (.str "uhashring.ring" 362) (.ref 209)) ::
(nat_lit 211,⟨.type "tuple",.none,.seq ⟨[]⟩ 0,⟨[]⟩⟩) ::
(nat_lit 213,⟨.type "tuple",.none,.seq ⟨[.str "self" 485,.str "key" 486,.str "what" 487,.str "pos" 488,.str "nodename" 489]⟩ 0,⟨[]⟩⟩) ::
(nat_lit 214,⟨.type "tuple",.none,.seq ⟨[]⟩ 0,⟨[]⟩⟩) ::
(nat_lit 216,⟨.type "code",.none,.fields ⟨[.str "_get" 482,.str "HashRing._get" 483,.str "/claim/cut.py" 484,.int 196 0,.int 3 0,.int 0 0,.int 0 0,.int 3 0,.ref 211,.bool .true,.int 181 0,.ref 212,.none,.ref 213,.ref 214,.ref 215,.int 490 0,.int 196 0,.str "/claim/cut.py" 491]⟩,⟨[]⟩⟩) ::
(nat_lit 217,fnO (f2 8 10) "HashRing._get" .none .none .none (.str "uhashring.ring" 362) (.ref 216)) ::
(nat_lit 218,⟨.type "tuple",.none,.seq ⟨[]⟩ 0,⟨[]⟩⟩) ::
(nat_lit 220,⟨.type "tuple",.none,.seq ⟨[.str "self" 496,.str "key" 497]⟩ 0,⟨[]⟩⟩) ::
(nat_lit 221,⟨.type "tuple",.none,.seq ⟨[]⟩ 0,⟨[]⟩⟩) ::
(nat_lit 223,⟨.type "code",.none,.fields ⟨[.str "get" 493,.str "HashRing.get" 494,.str "/claim/cut.py" 495,.int 212 0,.int 2 0,.int 0 0,.int 0 0,.int 3 0,.ref 218,.bool .true,.int 181 0,.ref 219,.none,.ref 220,.ref 221,.ref 222,.int 498 0,.int 212 0,.str "/claim/cut.py" 499]⟩,⟨[]⟩⟩) ::
(nat_lit 224,fnO (f2 8 11) "HashRing.get" .none .none .none (.str "uhashring.ring" 362) (.ref 223)) ::
(nat_lit 225,⟨.type "tuple",.none,.seq ⟨[]⟩ 0,⟨[]⟩⟩) ::
(nat_lit 227,⟨.type "tuple",.none,.seq ⟨[.str "self" 504]⟩ 0,⟨[]⟩⟩) ::
(nat_lit 228,⟨.type "tuple",.none,.seq ⟨[]⟩ 0,⟨[]⟩⟩) ::
(nat_lit 230,⟨.type "code",.none,.fields ⟨[.str "get_instances" 501,.str "HashRing.get_instances" 502,.str "/claim/cut.py" 503,.int 215 0,.int 1 0,.int 0 0,.int 0 0,.int 3 0,.ref 225,.bool .true,.int 181 0,.ref 226,.none,.ref 227,.ref 228,.ref 229,.int 505 0,.int 215 0,.str "/claim/cut.py" 506]⟩,⟨[]⟩⟩) ::
(nat_lit 231,fnO (f2 8 12) "HashRing.get_instances" .none .none .none (.str "uhashring.ring" 362) (.ref 230)) ::
(nat_lit 232,⟨.type "tuple",.none,.seq ⟨[]⟩ 0,⟨[]⟩⟩) ::
(nat_lit 234,⟨.type "tuple",.none,.seq ⟨[.str "self" 511,.str "key" 512]⟩ 0,⟨[]⟩⟩) ::
(nat_lit 235,⟨.type "tuple",.none,.seq ⟨[]⟩ 0,⟨[]⟩⟩) ::
(nat_lit 237,⟨.type "code",.none,.fields ⟨[.str "get_key" 508,.str "HashRing.get_key" 509,.str "/claim/cut.py" 510,.int 218 0,.int 2 0,.int 0 0,.int 0 0,.int 3 0,.ref 232,.bool .true,.int 181 0,.ref 233,.none,.ref 234,.ref 235,.ref 236,.int 513 0,.int 218 0,.str "/claim/cut.py" 514]⟩,⟨[]⟩⟩) ::
(nat_lit 238,fnO (f2 8 13) "HashRing.get_key" .none .none .none (.str "uhashring.ring" 362) (.ref 237)) ::
(nat_lit 239,⟨.type "tuple",.none,.seq ⟨[]⟩ 0,⟨[]⟩⟩) ::
(nat_lit 241,⟨.type "tuple",.none,.seq ⟨[.str "self" 519,.str "key" 520]⟩ 0,⟨[]⟩⟩) ::
(nat_lit 242,⟨.type "tuple",.none,.seq ⟨[]⟩ 0,⟨[]⟩⟩) ::
(nat_lit 244,⟨.type "code",.none,.fields ⟨[.str "get_node" 516,.str "HashRing.get_node" 517,.str "/claim/cut.py" 518,.int 221 0,.int 2 0,.int 0 0,.int 0 0,.int 3 0,.ref 239,.bool .true,.int 181 0,.ref 240,.none,.ref 241,.ref 242,.ref 243,.int 521 0,.int 221 0,.str "/claim/cut.py" 522]⟩,⟨[]⟩⟩) ::
(nat_lit 245,fnO (f2 8 14) "HashRing.get_node" .none .none .none (.str "uhashring.ring" 362) (.ref 244)) ::
(nat_lit 246,⟨.type "tuple",.none,.seq ⟨[]⟩ 0,⟨[]⟩⟩) ::
(nat_lit 248,⟨.type "tuple",.none,.seq ⟨[.str "self" 527,.str "key" 528]⟩ 0,⟨[]⟩⟩) ::
(nat_lit 249,⟨.type "tuple",.none,.seq ⟨[]⟩ 0,⟨[]⟩⟩) ::
(nat_lit 251,⟨.type "code",.none,.fields ⟨[.str "get_node_hostname" 524,.str "HashRing.get_node_hostname" 525,.str "/claim/cut.py" 526,.int 224 0,.int 2 0,.int 0 0,.int 0 0,.int 3 0,.ref 246,.bool .true,.int 181 0,.ref 247,.none,.ref 248,.ref 249,.ref 250,.int 529 0,.int 224 0,.str "/claim/cut.py" 530]⟩,⟨[]⟩⟩) ::
(nat_lit 252,fnO (f2 8 15) "HashRing.get_node_hostname" .none .none .none (.str "uhashring.ring" 362) (.ref 251)) ::
(nat_lit 253,⟨.type "tuple",.none,.seq ⟨[]⟩ 0,⟨[]⟩⟩) ::
(nat_lit 255,⟨.type "tuple",.none,.seq ⟨[.str "self" 535,.str "key" 536]⟩ 0,⟨[]⟩⟩) ::
(nat_lit 256,⟨.type "tuple",.none,.seq ⟨[]⟩ 0,⟨[]⟩⟩) ::
(nat_lit 258,⟨.type "code",.none,.fields ⟨[.str "get_node_port" 532,.str "HashRing.get_node_port" 533,.str "/claim/cut.py" 534,.int 227 0,.int 2 0,.int 0 0,.int 0 0,.int 3 0,.ref 253,.bool .true,.int 181 0,.ref 254,.none,.ref 255,.ref 256,.ref 257,.int 537 0,.int 227 0,.str "/claim/cut.py" 538]⟩,⟨[]⟩⟩) ::
(nat_lit 259,fnO (f2 8 16) "HashRing.get_node_port" .none .none .none (.str "uhashring.ring" 362) (.ref 258)) ::
(nat_lit 260,⟨.type "tuple",.none,.seq ⟨[]⟩ 0,⟨[]⟩⟩) ::
(nat_lit 262,⟨.type "tuple",.none,.seq ⟨[.str "self" 543,.str "key" 544]⟩ 0,⟨[]⟩⟩) ::
(nat_lit 263,⟨.type "tuple",.none,.seq ⟨[]⟩ 0,⟨[]⟩⟩) ::
(nat_lit 265,⟨.type "code",.none,.fields ⟨[.str "get_node_pos" 540,.str "HashRing.get_node_pos" 541,.str "/claim/cut.py" 542,.int 230 0,.int 2 0,.int 0 0,.int 0 0,.int 3 0,.ref 260,.bool .true,.int 181 0,.ref 261,.none,.ref 262,.ref 263,.ref 264,.int 545 0,.int 230 0,.str "/claim/cut.py" 546]⟩,⟨[]⟩⟩) ::
(nat_lit 266,fnO (f2 8 17) "HashRing.get_node_pos" .none .none .none (.str "uhashring.ring" 362) (.ref 265)) ::
(nat_lit 267,⟨.type "tuple",.none,.seq ⟨[]⟩ 0,⟨[]⟩⟩) ::
(nat_lit 269,⟨.type "tuple",.none,.seq ⟨[.str "self" 551,.str "key" 552]⟩ 0,⟨[]⟩⟩) ::
(nat_lit 270,⟨.type "tuple",.none,.seq ⟨[]⟩ 0,⟨[]⟩⟩) ::
(nat_lit 272,⟨.type "code",.none,.fields ⟨[.str "get_node_weight" 548,.str "HashRing.get_node_weight" 549,.str "/claim/cut.py" 550,.int 233 0,.int 2 0,.int 0 0,.int 0 0,.int 3 0,.ref 267,.bool .true,.int 181 0,.ref 268,.none,.ref 269,.ref 270,.ref 271,.int 553 0,.int 233 0,.str "/claim/cut.py" 554]⟩,⟨[]⟩⟩) ::
(nat_lit 273,fnO (f2 8 18) "HashRing.get_node_weight" .none .none .none (.str "uhashring.ring" 362) (.ref 272)) ::
(nat_lit 274,⟨.type "tuple",.none,.seq ⟨[]⟩ 0,⟨[]⟩⟩) ::
(nat_lit 276,⟨.type "tuple",.none,.seq ⟨[.str "self" 559]⟩ 0,⟨[]⟩⟩) ::
(nat_lit 277,⟨.type "tuple",.none,.seq ⟨[]⟩ 0,⟨[]⟩⟩) ::
(nat_lit 279,⟨.type "code",.none,.fields ⟨[.str "get_nodes" 556,.str "HashRing.get_nodes" 557,.str "/claim/cut.py" 558,.int 236 0,.int 1 0,.int 0 0,.int 0 0,.int 3 0,.ref 274,.bool .true,.int 181 0,.ref 275,.none,.ref 276,.ref 277,.ref 278,.int 560 0,.int 236 0,.str "/claim/cut.py" 561]⟩,⟨[]⟩⟩) ::
(nat_lit 280,fnO (f2 8 19) "HashRing.get_nodes" .none .none .none (.str "uhashring.ring" 362) (.ref 279)) ::
(nat_lit 281,⟨.type "tuple",.none,.seq ⟨[]⟩ 0,⟨[]⟩⟩) ::
(nat_lit 283,⟨.type "tuple",.none,.seq ⟨[.str "self" 566]⟩ 0,⟨[]⟩⟩) ::
(nat_lit 284,⟨.type "tuple",.none,.seq ⟨[]⟩ 0,⟨[]⟩⟩) ::
(nat_lit 286,⟨.type "code",.none,.fields ⟨[.str "get_points" 563,.str "HashRing.get_points" 564,.str "/claim/cut.py" 565,.int 239 0,.int 1 0,.int 0 0,.int 0 0,.int 3 0,.ref 281,.bool .true,.int 181 0,.ref 282,.none,.ref 283,.ref 284,.ref 285,.int 567 0,.int 239 0,.str "/claim/cut.py" 568]⟩,⟨[]⟩⟩) ::
(nat_lit 287,fnO (f2 8 20) "HashRing.get_points" .none .none .none (.str "uhashring.ring" 362) (.ref 286)) ::
(nat_lit 288,⟨.type "tuple",.none,.seq ⟨[]⟩ 0,⟨[]⟩⟩) ::
(nat_lit 290,⟨.type "tuple",.none,.seq ⟨[.str "self" 573,.str "key" 574]⟩ 0,⟨[]⟩⟩) ::
(nat_lit 291,⟨.type "tuple",.none,.seq ⟨[]⟩ 0,⟨[]⟩⟩) ::
(nat_lit 293,⟨.type "code",.none,.fields ⟨[.str "get_server" 570,.str "HashRing.get_server" 571,.str "/claim/cut.py" 572,.int 242 0,.int 2 0,.int 0 0,.int 0 0,.int 3 0,.ref 288,.bool .true,.int 181 0,.ref 289,.none,.ref 290,.ref 291,.ref 292,.int 575 0,.int 242 0,.str "/claim/cut.py" 576]⟩,⟨[]⟩⟩) ::
(nat_lit 294,fnO (f2 8 21) "HashRing.get_server" .none .none .none (.str "uhashring.ring" 362) (.ref 293)) ::
(nat_lit 295,⟨.type "tuple",.none,.seq ⟨[.bool .true]⟩ 0,⟨[]⟩⟩) ::
(nat_lit 296,⟨.type "tuple",.none,.seq ⟨[]⟩ 0,⟨[]⟩⟩) ::
(nat_lit 298,⟨.type "tuple",.none,.seq ⟨[.str "self" 581,.str "key" 582,.str "distinct" 583,.str "node" 584]⟩ 0,⟨[]⟩⟩) ::
(nat_lit 299,⟨.type "tuple",.none,.seq ⟨[]⟩ 0,⟨[]⟩⟩) ::
(nat_lit 301,⟨.type "code",.none,.fields ⟨[.str "iterate_nodes" 578,.str "HashRing.iterate_nodes" 579,.str "/claim/cut.py" 580,.int 245 0,.int 3 0,.int 0 0,.int 0 0,.int 35 0,.ref 296,.bool .true,.int 181 0,.ref 297,.none,.ref 298,.ref 299,.ref 300,.int 585 0,.int 245 0,.str "/claim/cut.py" 586]⟩,⟨[]⟩⟩) ::
(nat_lit 302,fnO (f2 8 22) "HashRing.iterate_nodes" (.ref 295) .none .none (.str "uhashring.ring" 362) (.ref 301)) ::
(nat_lit 303,⟨.type "tuple",.none,.seq ⟨[.none,.bool .true]⟩ 0,⟨[]⟩⟩) ::
(nat_lit 304,⟨.type "tuple",.none,.seq ⟨[]⟩ 0,⟨[]⟩⟩) ::
(nat_lit 306,⟨.type "tuple",.none,.seq ⟨[.str "self" 591,.str "key" 592,.str "size" 593,.str "unique" 594,.str "all_nodes" 595,.str "pos" 596,.str "nodename" 597,.str "i" 598]⟩ 0,⟨[]⟩⟩) ::
(nat_lit 307,⟨.type "tuple",.none,.seq ⟨[]⟩ 0,⟨[]⟩⟩) ::
(nat_lit 309,⟨.type "code",.none,.fields ⟨[.str "range" 588,.str "HashRing.range" 589,.str "/claim/cut.py" 590,.int 252 0,.int 4 0,.int 0 0,.int 0 0,.int 35 0,.ref 304,.bool .true,.int 181 0,.ref 305,.none,.ref 306,.ref 307,.ref 308,.int 599 0,.int 252 0,.str "/claim/cut.py" 600]⟩,⟨[]⟩⟩) ::
(nat_lit 310,fnO (f2 8 23) "HashRing.range" (.ref 303) .none .none (.str "uhashring.ring" 362) (.ref 309)) ::
(nat_lit 311,⟨.type "tuple",.none,.seq ⟨[]⟩ 0,⟨[]⟩⟩) ::
(nat_lit 313,⟨.type "tuple",.none,.seq ⟨[.str "self" 605]⟩ 0,⟨[]⟩⟩) ::
(nat_lit 314,⟨.type "tuple",.none,.seq ⟨[]⟩ 0,⟨[]⟩⟩) ::
(nat_lit 316,⟨.type "code",.none,.fields ⟨[.str "regenerate" 602,.str "HashRing.regenerate" 603,.str "/claim/cut.py" 604,.int 284 0,.int 1 0,.int 0 0,.int 0 0,.int 3 0,.ref 311,.bool .true,.int 181 0,.ref 312,.none,.ref 313,.ref 314,.ref 315,.int 606 0,.int 284 0,.str "/claim/cut.py" 607]⟩,⟨[]⟩⟩) ::
(nat_lit 317,fnO (f2 8 24) "HashRing.regenerate" .none .none .none (.str "uhashring.ring" 362) (.ref 316)) ::
(nat_lit 318,⟨.type "tuple",.none,.seq ⟨[]⟩ 0,⟨[]⟩⟩) ::
(nat_lit 320,⟨.type "tuple",.none,.seq ⟨[.str "self" 612]⟩ 0,⟨[]⟩⟩) ::
(nat_lit 321,⟨.type "tuple",.none,.seq ⟨[]⟩ 0,⟨[]⟩⟩) ::
(nat_lit 323,⟨.type "code",.none,.fields ⟨[.str "conf" 609,.str "HashRing.conf" 610,.str "/claim/cut.py" 611,.int 288 0,.int 1 0,.int 0 0,.int 0 0,.int 3 0,.ref 318,.bool .true,.int 181 0,.ref 319,.none,.ref 320,.ref 321,.ref 322,.int 613 0,.int 288 0,.str "/claim/cut.py" 614]⟩,⟨[]⟩⟩) ::
(nat_lit 324,fnO (f2 8 25) "HashRing.conf" .none .none .none (.str "uhashring.ring" 362) (.ref 323)) ::
(nat_lit 325,⟨.type "property",.none,.fields ⟨[.ref 324,.none,.none,.none,.str "conf" 616,.bool .false]⟩,⟨[]⟩⟩) ::
(nat_lit 326,⟨.type "tuple",.none,.seq ⟨[]⟩ 0,⟨[]⟩⟩) ::
(nat_lit 328,⟨.type "tuple",.none,.seq ⟨[.str "self" 620]⟩ 0,⟨[]⟩⟩) ::
(nat_lit 329,⟨.type "tuple",.none,.seq ⟨[]⟩ 0,⟨[]⟩⟩) ::
(nat_lit 331,⟨.type "code",.none,.fields ⟨[.str "nodes" 617,.str "HashRing.nodes" 618,.str "/claim/cut.py" 619,.int 292 0,.int 1 0,.int 0 0,.int 0 0,.int 3 0,.ref 326,.bool .true,.int 181 0,.ref 327,.none,.ref 328,.ref 329,.ref 330,.int 621 0,.int 292 0,.str "/claim/cut.py" 622]⟩,⟨[]⟩⟩) ::
(nat_lit 332,fnO (f2 8 26) "HashRing.nodes" .none .none .none (.str "uhashring.ring" 362) (.ref 331)) ::
(nat_lit 333,⟨.type "property",.none,.fields ⟨[.ref 332,.none,.none,.none,.str "nodes" 624,.bool .false]⟩,⟨[]⟩⟩) ::
(nat_lit 334,⟨.type "tuple",.none,.seq ⟨[]⟩ 0,⟨[]⟩⟩) ::
(nat_lit 336,⟨.type "tuple",.none,.seq ⟨[.str "self" 628]⟩ 0,⟨[]⟩⟩) ::
(nat_lit 337,⟨.type "tuple",.none,.seq ⟨[]⟩ 0,⟨[]⟩⟩) ::
(nat_lit 339,⟨.type "code",.none,.fields ⟨[.str "distribution" 625,.str "HashRing.distribution" 626,.str "/claim/cut.py" 627,.int 296 0,.int 1 0,.int 0 0,.int 0 0,.int 3 0,.ref 334,.bool .true,.int 181 0,.ref 335,.none,.ref 336,.ref 337,.ref 338,.int 629 0,.int 296 0,.str "/claim/cut.py" 630]⟩,⟨[]⟩⟩) ::
(nat_lit 340,fnO (f2 8 27) "HashRing.distribution" .none .none .none (.str "uhashring.ring" 362) (.ref 339)) ::
(nat_lit 341,⟨.type "property",.none,.fields ⟨[.ref 340,.none,.none,.none,.str "distribution" 632,.bool .false]⟩,⟨[]⟩⟩) ::
(nat_lit 342,⟨.type "tuple",.none,.seq ⟨[]⟩ 0,⟨[]⟩⟩) ::
(nat_lit 344,⟨.type "tuple",.none,.seq ⟨[.str "self" 636]⟩ 0,⟨[]⟩⟩) ::
(nat_lit 345,⟨.type "tuple",.none,.seq ⟨[]⟩ 0,⟨[]⟩⟩) ::
(nat_lit 347,⟨.type "code",.none,.fields ⟨[.str "ring" 633,.str "HashRing.ring" 634,.str "/claim/cut.py" 635,.int 300 0,.int 1 0,.int 0 0,.int 0 0,.int 3 0,.ref 342,.bool .true,.int 181 0,.ref 343,.none,.ref 344,.ref 345,.ref 346,.int 637 0,.int 300 0,.str "/claim/cut.py" 638]⟩,⟨[]⟩⟩) ::
(nat_lit 348,fnO (f2 8 28) "HashRing.ring" .none .none .none (.str "uhashring.ring" 362) (.ref 347)) ::
(nat_lit 349,⟨.type "property",.none,.fields ⟨[.ref 348,.none,.none,.none,.str "ring" 640,.bool .false]⟩,⟨[]⟩⟩) ::
(nat_lit 350,⟨.type "tuple",.none,.seq ⟨[]⟩ 0,⟨[]⟩⟩) ::
(nat_lit 352,⟨.type "tuple",.none,.seq ⟨[.str "self" 644]⟩ 0,⟨[]⟩⟩) ::
(nat_lit 353,⟨.type "tuple",.none,.seq ⟨[]⟩ 0,⟨[]⟩⟩) ::
(nat_lit 355,⟨.type "code",.none,.fields ⟨[.str "continuum" 641,.str "HashRing.continuum" 642,.str "/claim/cut.py" 643,.int 304 0,.int 1 0,.int 0 0,.int 0 0,.int 3 0,.ref 350,.bool .true,.int 181 0,.ref 351,.none,.ref 352,.ref 353,.ref 354,.int 645 0,.int 304 0,.str "/claim/cut.py" 646]⟩,⟨[]⟩⟩) ::
(nat_lit 356,fnO (f2 8 29) "HashRing.continuum" .none .none .none (.str "uhashring.ring" 362) (.ref 355)) ::
(nat_lit 357,⟨.type "property",.none,.fields ⟨[.ref 356,.none,.none,.none,.str "continuum" 648,.bool .false]⟩,⟨[]⟩⟩) ::
(nat_lit 358,⟨.type "tuple",.none,.seq ⟨[]⟩ 0,⟨[]⟩⟩) ::
(nat_lit 360,⟨.type "tuple",.none,.seq ⟨[.str "self" 652]⟩ 0,⟨[]⟩⟩) ::
(nat_lit 361,⟨.type "tuple",.none,.seq ⟨[]⟩ 0,⟨[]⟩⟩) ::
(nat_lit 363,⟨.type "code",.none,.fields ⟨[.str "size" 649,.str "HashRing.size" 650,.str "/claim/cut.py" 651,.int 308 0,.int 1 0,.int 0 0,.int 0 0,.int 3 0,.ref 358,.bool .true,.int 181 0,.ref 359,.none,.ref 360,.ref 361,.ref 362,.int 653 0,.int 308 0,.str "/claim/cut.py" 654]⟩,⟨[]⟩⟩) ::
(nat_lit 364,fnO (f2 8 30) "HashRing.size" .none .none .none (.str "uhashring.ring" 362) (.ref 363)) ::
(nat_lit 365,⟨.type "property",.none,.fields ⟨[.ref 364,.none,.none,.none,.str "size" 656,.bool .false]⟩,⟨[]⟩⟩) ::
(nat_lit 366,⟨.type "tuple",.none,.seq ⟨[]⟩ 0,⟨[]⟩⟩) ::
(nat_lit 368,⟨.type "tuple",.none,.seq ⟨[.str "self" 660]⟩ 0,⟨[]⟩⟩) ::
(nat_lit 369,⟨.type "tuple",.none,.seq ⟨[]⟩ 0,⟨[]⟩⟩) ::
(nat_lit 371,⟨.type "code",.none,.fields ⟨[.str "_ring" 657,.str "HashRing._ring" 658,.str "/claim/cut.py" 659,.int 312 0,.int 1 0,.int 0 0,.int 0 0,.int 3 0,.ref 366,.bool .true,.int 181 0,.ref 367,.none,.ref 368,.ref 369,.ref 370,.int 661 0,.int 312 0,.str "/claim/cut.py" 662]⟩,⟨[]⟩⟩) ::
(nat_lit 372,fnO (f2 8 31) "HashRing._ring" .none .none .none (.str "uhashring.ring" 362) (.ref 371)) ::
(nat_lit 373,⟨.type "property",.none,.fields ⟨[.ref 372,.none,.none,.none,.str "_ring" 664,.bool .false]⟩,⟨[]⟩⟩) ::
(nat_lit 374,⟨.type "tuple",.none,.seq ⟨[]⟩ 0,⟨[]⟩⟩) ::
(nat_lit 376,⟨.type "tuple",.none,.seq ⟨[.str "self" 668]⟩ 0,⟨[]⟩⟩) ::
(nat_lit 377,⟨.type "tuple",.none,.seq ⟨[]⟩ 0,⟨[]⟩⟩) ::
(nat_lit 379,⟨.type "code",.none,.fields ⟨[.str "_nodes" 665,.str "HashRing._nodes" 666,.str "/claim/cut.py" 667,.int 316 0,.int 1 0,.int 0 0,.int 0 0,.int 3 0,.ref 374,.bool .true,.int 181 0,.ref 375,.none,.ref 376,.ref 377,.ref 378,.int 669 0,.int 316 0,.str "/claim/cut.py" 670]⟩,⟨[]⟩⟩) ::
(nat_lit 380,fnO (f2 8 32) "HashRing._nodes" .none .none .none (.str "uhashring.ring" 362) (.ref 379)) ::
(nat_lit 381,⟨.type "property",.none,.fields ⟨[.ref 380,.none,.none,.none,.str "_nodes" 672,.bool .false]⟩,⟨[]⟩⟩) ::
(nat_lit 382,⟨.type "tuple",.none,.seq ⟨[]⟩ 0,⟨[]⟩⟩) ::
(nat_lit 384,⟨.type "tuple",.none,.seq ⟨[.str "self" 676]⟩ 0,⟨[]⟩⟩) ::
(nat_lit 385,⟨.type "tuple",.none,.seq ⟨[]⟩ 0,⟨[]⟩⟩) ::
(nat_lit 387,⟨.type "code",.none,.fields ⟨[.str "_keys" 673,.str "HashRing._keys" 674,.str "/claim/cut.py" 675,.int 320 0,.int 1 0,.int 0 0,.int 0 0,.int 3 0,.ref 382,.bool .true,.int 181 0,.ref 383,.none,.ref 384,.ref 385,.ref 386,.int 677 0,.int 320 0,.str "/claim/cut.py" 678]⟩,⟨[]⟩⟩) ::
(nat_lit 388,fnO (f2 8 33) "HashRing._keys" .none .none .none (.str "uhashring.ring" 362) (.ref 387)) ::
(nat_lit 389,⟨.type "property",.none,.fields ⟨[.ref 388,.none,.none,.none,.str "_keys" 680,.bool .false]⟩,⟨[]⟩⟩) ::
(nat_lit 390,⟨.type "tuple",.none,.seq ⟨[.str "_default_vnodes" 681,.str "_weight_fn" 682,.str "runtime" 683]⟩ 0,⟨[]⟩⟩) ::
(nat_lit 391,⟨.type "dict",.none,.dict ⟨[⟨(kh P "__module__"),.str "__module__" 382,.str "uhashring.ring" 362⟩,⟨(kh P "__firstlineno__"),.str "__firstlineno__" 386,.int 112 385⟩,⟨(kh P "__init__"),.str "__init__" 392,.ref 143⟩,⟨(kh P "hashi"),.str "hashi" 400,.ref 150⟩,⟨(kh P "_configure_nodes"),.str "_configure_nodes" 416,.ref 157⟩,⟨(kh P "__delitem__"),.str "__delitem__" 424,.ref 164⟩,⟨(kh P "remove_node"),.str "remove_node" 432,.ref 171⟩,⟨(kh P "__getitem__"),.str "__getitem__" 440,.ref 178⟩,⟨(kh P "get_node_instance"),.str "get_node_instance" 448,.ref 185⟩,⟨(kh P "__setitem__"),.str "__setitem__" 460,.ref 194⟩,⟨(kh P "add_node"),.str "add_node" 472,.ref 203⟩,⟨(kh P "_get_pos"),.str "_get_pos" 481,.ref 210⟩,⟨(kh P "_get"),.str "_get" 492,.ref 217⟩,⟨(kh P "get"),.str "get" 500,.ref 224⟩,⟨(kh P "get_instances"),.str "get_instances" 507,.ref 231⟩,⟨(kh P "get_key"),.str "get_key" 515,.ref 238⟩,⟨(kh P "get_node"),.str "get_node" 523,.ref 245⟩,⟨(kh P "get_node_hostname"),.str "get_node_hostname" 531,.ref 252⟩,⟨(kh P "get_node_port"),.str "get_node_port" 539,.ref 259⟩,⟨(kh P "get_node_pos"),.str "get_node_pos" 547,.ref 266⟩,⟨(kh P "get_node_weight"),.str "get_node_weight" 555,.ref 273⟩,⟨(kh P "get_nodes"),.str "get_nodes" 562,.ref 280⟩,⟨(kh P "get_points"),.str "get_points" 569,.ref 287⟩,⟨(kh P "get_server"),.str "get_server" 577,.ref 294⟩,⟨(kh P "iterate_nodes"),.str "iterate_nodes" 587,.ref 302⟩,⟨(kh P "range"),.str "range" 601,.ref 310⟩,⟨(kh P "regenerate"),.str "regenerate" 608,.ref 317⟩,⟨(kh P "conf"),.str "conf" 616,.ref 325⟩,⟨(kh P "nodes"),.str "nodes" 624,.ref 333⟩,⟨(kh P "distribution"),.str "distribution" 632,.ref 341⟩,⟨(kh P "ring"),.str "ring" 640,.ref 349⟩,⟨(kh P "continuum"),.str "continuum" 648,.ref 357⟩,⟨(kh P "size"),.str "size" 656,.ref 365⟩,⟨(kh P "_ring"),.str "_ring" 664,.ref 373⟩,⟨(kh P "_nodes"),.str "_nodes" 672,.ref 381⟩,⟨(kh P "_keys"),.str "_keys" 680,.ref 389⟩,⟨(kh P "__static_attributes__"),.str "__static_attributes__" 684,.ref 390⟩,⟨(kh P "__dict__"),.str "__dict__" 686,.ref 393⟩,⟨(kh P "__weakref__"),.str "__weakref__" 688,.ref 394⟩,⟨(kh P "__doc__"),.str "__doc__" 689,.none⟩]⟩ 4,⟨[]⟩⟩) ::
(nat_lit 392,⟨.type "type",.none,.cls ⟨"HashRing",[.type "object"],[.ref 392,.type "object"],391,"HashRing",.true,[],[],.false,.none,.false⟩,⟨[.none,.none,.some (.str "HashRing" 375),.some (.str "HashRing" 383),.some (.builtin "object.__new__"),.some (.bool .true)]⟩⟩) ::
(nat_lit 393,⟨.type "getset_descriptor",.none,.fields ⟨[.str "__dict__" 685,.ref 392,.builtin "function.__dict__",.builtin "function.__dict__#set"]⟩,⟨[]⟩⟩) ::
(nat_lit 394,⟨.type "getset_descriptor",.none,.fields ⟨[.str "__weakref__" 687,.ref 392,.builtin "ExceptionGroup.__weakref__",.none]⟩,⟨[]⟩⟩) ::
(nat_lit 397,⟨.type "tuple",.none,.seq ⟨[]⟩ 0,⟨[]⟩⟩) ::
(nat_lit 399,⟨.type "tuple",.none,.seq ⟨[.str "box" 697]⟩ 0,⟨[]⟩⟩) ::
(nat_lit 400,⟨.type "tuple",.none,.seq ⟨[]⟩ 0,⟨[]⟩⟩) ::
(nat_lit 402,⟨.type "code",.none,.fields ⟨[.str "_law_take" 694,.str "_law_take" 695,.str "/claim/cut.py" 696,.int 324 0,.int 1 0,.int 0 0,.int 0 0,.int 3 0,.ref 397,.bool .true,.int 181 0,.ref 398,.none,.ref 399,.ref 400,.ref 401,.int 698 0,.int 324 0,.str "/claim/cut.py" 699]⟩,⟨[]⟩⟩) ::
(nat_lit 403,fnO (f1 10) "_law_take" .none .none .none (.str "law_iu0043_04" 692) (.ref 402)) ::
(nat_lit 404,⟨.type "tuple",.none,.seq ⟨[]⟩ 0,⟨[]⟩⟩) ::
(nat_lit 407,⟨.type "code",.none,.fields ⟨[.str "law" 701,.str "law" 702,.str "/claim/cut.py" 703,.int 328 0,.int 1 0,.int 0 0,.int 0 0,.int 3 0,.ref 404,.bool .true,.int 181 0,.ref 405,.none,.none,.none,.ref 406,.int 704 0,.int 328 0,.str "/claim/cut.py" 705]⟩,⟨[]⟩⟩) ::
(nat_lit 408,fnO (f1 11) "law" .none .none .none (.str "law_iu0043_04" 692) (.ref 407)) :: []
noncomputable abbrev asK : List Addr := [2, 3, 15, 17, 18, 20, 21, 22, 24, 25, 27, 28, 36, 37, 39, 40, 42, 43, 44, 45, 47, 48, 50, 51, 52, 54, 55, 57, 58, 59, 61, 62, 64, 65, 66, 68, 69, 71, 72, 73, 74, 75, 76, 77, 87, 88, 90, 91, 93, 94, 95, 97, 98, 100, 101, 102, 104, 105, 107, 108, 109, 111, 112, 114, 115, 116, 117, 118, 119, 120, 123, 125, 126, 128, 129, 137, 138, 139, 142, 143, 144, 146, 147, 149, 150, 151, 153, 154, 156, 157, 158, 160, 161, 163, 164, 165, 167, 168, 170, 171, 172, 174, 175, 177, 178, 179, 181, 182, 184, 185, 186, 187, 188, 190, 191, 193, 194, 195, 196, 197, 199, 200, 202, 203, 204, 206, 207, 209, 210, 211, 213, 214, 216, 217, 218, 220, 221, 223, 224, 225, 227, 228, 230, 231, 232, 234, 235, 237, 238, 239, 241, 242, 244, 245, 246, 248, 249, 251, 252, 253, 255, 256, 258, 259, 260, 262, 263, 265, 266, 267, 269, 270, 272, 273, 274, 276, 277, 279, 280, 281, 283, 284, 286, 287, 288, 290, 291, 293, 294, 295, 296, 298, 299, 301, 302, 303, 304, 306, 307, 309, 310, 311, 313, 314, 316, 317, 318, 320, 321, 323, 324, 325, 326, 328, 329, 331, 332, 333, 334, 336, 337, 339, 340, 341, 342, 344, 345, 347, 348, 349, 350, 352, 353, 355, 356, 357, 358, 360, 361, 363, 364, 365, 366, 368, 369, 371, 372, 373, 374, 376, 377, 379, 380, 381, 382, 384, 385, 387, 388, 389, 390, 391, 392, 393, 394, 397, 399, 400, 402, 403, 404, 407, 408]
theorem eK : ∀ P, asK = (hK P).map (·.1) := fun P => by kernel_rfl
noncomputable abbrev tsK : List Addr := [89, 405]
noncomputable abbrev HK : Hook := kmHook hK asK eK tsK
noncomputable abbrev VV : Program := view PP [0, 2, 3, 5, 7, 8, 10, 11]
noncomputable abbrev looseK : List Str := ["HashRing"]
noncomputable abbrev XX (s : Shared) : Bool := xlAt VV [] s && recOk (RowW.records PySem.Challenge.rw_iu0043_04.row.toRowW) s
theorem top_b1 : ∀ P, absHeap (bootT P) 11 (boot_heap P).life = boot_heap P := fun P => by kernel_rfl
theorem top_b2 : ∀ P, ((boot_heap P).isNs mainGlobals, (boot_heap P).objs.size, (boot_heap P).nsMap mainGlobals "__annotations__") = (true, 11, some (.ref 6)) := fun P => by kernel_rfl
theorem top_b3 : opening PP = plainProg PP.main.scope.names := by kernel_rfl
theorem top_b4 : ∀ s, fenceModules? PP s = some s := fun s => by kernel_rfl
theorem top_f : ∀ w : World, (fun os => (topRunT treeTable PP (w.withFollow "special-get-raises" false) 11 (some (.ref 6)) 5614 (bootS w.params 11 os) (topStub PP)).bind fun s => looked PP VV looseK XX HK.obs (boot_heap w.params) s.abs) = fun _ => some (openGood VV looseK, HK.val (w.withFollow "special-get-raises" false)) := fun w => by kernel_rfl
theorem top_t : ∀ w : World, (fun os => (topRunT treeTable PP (w.withFollow "special-get-raises" true) 11 (some (.ref 6)) 5614 (bootS w.params 11 os) (topStub PP)).bind fun s => looked PP VV looseK XX HK.obs (boot_heap w.params) s.abs) = fun _ => some (openGood VV looseK, HK.val (w.withFollow "special-get-raises" true)) := fun w => by kernel_rfl
/-- the top's run -/
theorem top_left : LeftO PP VV looseK XX HK.obs HK.val 5614 :=
  left_of "special-get-raises" top_b3 (by decide +kernel) top_b4 top_b1 top_b2 fun b w => by cases b; exact top_f w; exact top_t w
end Mc

open Mc
namespace Mc
 def syN (k : Lean.Name) (a : List Lean.Syntax) : Lean.Syntax := .node .none k a.toArray
 def syA (s : String) : Lean.Syntax := .atom .none s
 def syI (s : String) : Lean.Syntax := (Lean.mkIdent s.toName).raw
 def syK (k s : String) (a : List Lean.Syntax) : Lean.Syntax := syN (.str `Lean.Parser.Tactic k) (syA s :: a)
 def syM (k : String) (a : List Lean.Syntax) : Lean.Syntax := syN (.str `Lean.Parser.Term k) a
 def syU (a : List Lean.Syntax) : Lean.Syntax := syN `null a
 def sySq (a : List Lean.Syntax) : Lean.Syntax := syN `Lean.Parser.Tactic.tacticSeq [syN `Lean.Parser.Tactic.tacticSeq1Indented [syU a]]
 def syW (s : String) : Lean.Syntax := syN `PyProof.Rows.tacticWalk_at_ [syA "walk_at", Lean.Syntax.mkStrLit s]
 def syR (a : Lean.Syntax) : Lean.Syntax := syK "withReducible" "with_reducible" [sySq [a]]
 def syQ : Lean.Syntax := syM "syntheticHole" [syA "?", syA "_"]
 def syH : Lean.Syntax := syM "hole" [syA "_"]
 def syP (f : String) (a : List Lean.Syntax) : Lean.Syntax := syM "app" [syI f, syU a]
 def syF (r : List String) (a : List Lean.Syntax) : Lean.Syntax :=
   syK "refine" "refine" [syP (r.headD "") ((r.drop 1).map (fun v => syM "namedArgument" [syA "(", syI "b", syA ":=", syI v, syA ")"]) ++ a)]
 def syX (s : String) (n : Nat) : String := String.ofList (s.toList.drop n)
 def syAr (x : String) : Lean.Syntax := if x == "?" then syQ else if x == "_" then syH else if x.startsWith ":" then syP (syX x 1) [syH, syH] else if x.startsWith "@" then syI (syX x 1) else syM "byTactic" [syA "by", sySq [syW x]]
 def syL (l : List String) : Lean.Syntax := l.foldr (fun x r => syP "List.cons" [if x == "_" then syH else syP x [syH], r]) (syI "List.nil")
 def syJ (x c : String) (r : String) : Lean.Syntax :=
   if c == "=" then syK "exact" "exact" [syI r] else
   if c == "." then syK "exact" "exact" [syP r [syH]] else
   if c == "/" then syF [r] [syH, syQ] else
   if c == "+" then syK "apply" "apply" [syI r] else
   if c == "*" then syF [r] [syQ] else
   if c == "^" then syK "intro" "intro" [syU [if r == "_" then syH else syI r]] else
   if c == "%" then syR (syK "show" "show" [syP "wpAny" [syH, syH, syP "call" [syH, syL (r.splitOn ",")], syH, syH, syH]]) else
   if c == "#" then syR (syK "show" "show" [syP "wpAny" [syH, syH, syP "getAttr" [syH, syP "Str.ofString" [Lean.Syntax.mkStrLit r], syH], syH, syH, syH]]) else
   if c == "$" then syR (syK "show" "show" [syP "wpAny" [syH, syH, syP "call" [syP "Value.ref" [Lean.Syntax.mkNumLit r], syH], syH, syH, syH]]) else
   if x == "!d" then syK "decide" "decide" [syN `Lean.Parser.Tactic.optConfig [syU []]] else
   if c == "|" then syR (syK "show" "show" [syP "wpAny" [syH, syH, syP "binaryOp" [syH, syP "Value.ref" [syH], syP "Value.ref" [syH]], syH, syH, syH]]) else
   if c == "-" then syK "tacticTry_" "try" [sySq [syK "clear" "clear" [syU [syI r]]]] else
   if x == "!a" then syK "assumption" "assumption" [] else
   if x == "!r" then syK "tacticRfl" "rfl" [] else
   if x == "!t" then syK "rotateLeft" "rotate_left" [syU []] else
   if x == "!k" then syN `PyProof.Rows.tacticKernel_rfl! [syA "kernel_rfl!"] else
   if x == "!l" then syN `tacticKernel_rfl [syA "kernel_rfl"] else syW x
 def syV (x : String) : Lean.Syntax := syJ x (String.ofList (x.toList.take 1)) (syX x 1)
 def syT (x : String) : Lean.Syntax :=
   if x.startsWith "~" then syR (syV (syX x 1)) else
   if x.startsWith "&" then syK "withUnfoldingAll" "with_unfolding_all" [sySq [syV (syX x 1)]] else syV x
 def sySs (l : List Lean.Syntax) : Lean.Syntax := syK "paren" "(" [sySq (l.foldr (fun a r => if r.isEmpty then [a] else a :: syA ";" :: r) []), syA ")"]
 def syWs (s : String) : List String := (s.splitOn " ").filter (· != "")
 def syG (s : String) : List Lean.Syntax := (syWs s).map syT
 def syC (l : List String) : Lean.Syntax :=
   match l with
   | [p, r, a, q] =>
     let f := syF (syWs r) ((syWs a).map syAr)
     if p.startsWith "D" then sySs (syG (syX p 1) ++ f :: syG q) else sySs (syG p ++ syR f :: syG q)
   | [r, a] => syF (syWs r) ((syWs a).map syAr)
   | l => syN `PySem.W.tacticK_dflt_ [syA "k_dflt", sySs (syG (l.headD ""))]
 def syE (key e : String) : Option Lean.Syntax :=
   if e.startsWith key then
     match e.splitOn ";" with
     | [] => none
     | k :: l => if k == key then some (syC l) else none
   else none
 def syO (l : List Lean.Syntax) : Lean.Syntax := syK "first" "first" [syU (l.reverse.map fun a => syN `group [syA "|", sySq [a]])]
end Mc
local macro_rules | `(tactic| walk_at $k:str) => match (("eval Name;;rd_free;st rf rf rf mb rf rf ?;ret\neval Name;;rd_cell;st rf rf rf mb rf ?;ret\neval Name;;rd_global;st asm mb rf rf rf rf rf ?;\neval Name;;rd_local;st loc mb mb rf rf rf ?;ret\nstoreName;;st_cell;st rf rf rf er up ?;in2\nstoreName;;st_local;st loc rf rf er mb pu up ?;in2\ncall builtin:len;;r_len_list;st mb size ?;in3\ngetAttr ref;;rc_prop;st asm mb cls mb mb ?;in3\ngetAttr ref;;rc_attr;st asm mb cls mb mb mb handed ?;in2 ret\ncompareOp In;;r_in_t;st mb key sysm asm ?;in2\ncompareOp In;;r_in_f;st mb key sysm asm ?;in2\ncompareOp NotIn;;r_notIn_f;st mb key sysm asm ?;in2\ncallWith ref;;callWith_KW0;bX kr rf ? kl;\ncallWith ref;;callWith_KW;bX kr rf ? kl kl;\ncallWith ref;;callWith_K0;bk kr ?;\ncallWith ref;;callWith_K;bX kr ? kl kl;\ngetMethod ref;;rc_meth_own;st asm mb cls mb mb mb handed ?;in2 ret\ngetMethod ref;;rc_meth;st asm mb cls mb mb kr ?;\ngetMethod ref;;m_list;st mb @PySem.F.slot_list_append @PySem.F.type_list_append ?;\ngetMethod ref;;m_list;st mb @PySem.F.slot_list_pop @PySem.F.type_list_pop ?;\ngetMethod ref;;m_list;st mb @PySem.F.slot_list_sort @PySem.F.type_list_sort ?;\ngetMethod ref;;m_list;st mb @PySem.F.slot_list_insert @PySem.F.type_list_insert ?;\ngetMethod ref;;m_dict;st mb @PySem.F.slot_dict_pop @PySem.F.type_dict_pop ?;\ngetMethod ref;;m_dict;st mb @PySem.F.slot_dict_get @PySem.F.type_dict_get ?;\ngetMethod ref;;m_dict;st mb @PySem.F.slot_dict_keys @PySem.F.type_dict_keys ?;\ngetMethod ref;;m_dict;st mb @PySem.F.slot_dict_items @PySem.F.type_dict_items ?;\ngetMethod ref;;m_dict;st mb @PySem.F.slot_dict_values @PySem.F.type_dict_values ?;\nsubscriptTail;;sub_list;st mb asm asm asm wr ?;ret\nsubscriptTail;;sub_dict;st mb key asm wr ?;in2 ret\nsubscriptTail;;sub_dict_m;st mb key mb wr ?;in2 ret\nsubscriptTail Name Slice ref ref;;r_slice_to2;xH mb size rf rf wr iw ?;in3\nsubscriptTail Name Slice ref ref;;r_slice_from2;xH mb size rf rf wr iw ?;in3\nsubscriptTail List cons Slice ref ref;;r_slice_to3;xH mb size rf rf wr ?;in3\ncall type:list;s1;r_list_list;st mb size ?;in3\nbinaryOp Add;sb;r_add_lists;st mb mb size ?;in3\ncall builtin:dict.get;s3;r_get2_n;st mb key sysm asm ?;in2\ncall builtin:dict.get;s3;r_get2_s;st mb key sysm asm ?;in2 ret\ncall builtin:dict.pop;s3;r_pop_none;st key rf sysm mb asm ?;in2\ncall builtin:dict.pop;s3;r_pop2;st key rf up asm size ?;in2 ret\ncall builtin:dict.pop;s2;r_pop1;st key rf up asm size ?;in2 ret\ndelItem ref;;r_delItem_s;st key rf up asm size ?;in2\ncall builtin:list.append;;r_append;st er up size ?;in2\ntruthy ref;;r_truthy_list;st mb size ?;in2\ntruthy ref;;r_truthy_dict;st mb sysm size ?;in2\nunpackItems ref none;;r_unpackItems2;st hd mb wr ?;in2 ret ret\nnewList;;r_newList;st ers size ?;in3\nnewTuple;;r_newTuple;st ers size ?;in3\nsetAttr ref;;rc_setattr_new;st asm mb cls mb er up kr size ?;in2 sap\nsetAttr ref;;rc_setattr_m;st asm mb cls mb er mb du up size ?;in2\nsetItem ref;;r_setItem;st key er up size ?;in2\npyIter ref;;it_range;st mb size ?;in4\npyIter ref;;it_list;st mb ?;in4\nformatField str;;r_ff_str;st size ?;in3\nformatField int;;r_ff_int;st size ?;in3\ncall builtin:dict.items;;r_items;st mb sysm ?;in3\ncall builtin:dict.keys;;r_keys2;st mb ?;in3\ncompareOp In str ref;;r_in_strs true;st mb stl ak ?;\ncompareOp In str ref;;r_in_strs false;st mb stl ak ?;\ntruthy ref;;r_truthy_fn;st mb ?;\ncompareOp Eq ref str;;r_eq_fn_str;st units mb ?;\ncall builtin:isinstance;st2;r_isi_one true;st asm kit kr ?;in2\ncall builtin:isinstance;sr2;r_isi_tup2 true;st asm kit mb tyl kr ?;in2\ncall builtin:isinstance;st2;r_isi_one false;st asm kit kr ?;in2\ncall builtin:isinstance;sr2;r_isi_tup2 false;st asm kit mb tyl kr ?;in2\neval Dict;;r_dict;st rf rf cn nb ?;in3\nKdnMade;;r_dmade;st ekl kr up ?;in2\ncall builtin:sorted;;r_sorted_keys;st hd mb mb mb size ?;in6\ncall type:range;;r_range1;st ?;in3\ncall type:range;;r_range2;st ?;in3\nup;~+Up.appR up\nup;~+Up.appL up\nup;~+Up.tail up\nup;~+Up.head\npu;+Pu.tail pu\npu;=Pu.head\ndu;+Du.tail du\ndu;=Du.head\nkey;+intIs\nkey;+strIs\ners;+ErL.cons er ers\ners;=ErL.nil\nekl;+EkL.cons er ekl\nekl;=EkL.nil\ntyl;+TyL.cons tyl\ntyl;=TyL.nil\nstl;+StL.cons stl\nstl;=StL.nil\ner;=erTy\ner;=erBi\ner;=erBool\ner;=erNone\ner;=erStr\ner;=erInt\ner;=erRef\ner;!a\ncls;.c390\ncls;.c118\nloc;!r\nloc;=compEnv_locals\nloc;=callEnvC_locals\nloc;=callEnv_locals\nhanded;!a\nhanded;!r\nak;!k\nak;!a\niw;^_ &!r\nasm;~!a\nrf;!r\nkr;!k\nkl;!l\nwr;&!r\nxH;~=H\nnb;+Nat.le_of_ble_eq_true !r\nbX;Bs.X;a\nbk;Bs.k;a st\nIn;Bs.k;a st\na;!a\nsysm;~!a\nsysm;S.sysm;st mb\nsub;/List.Sublist.cons sub\nsub;/List.Sublist.cons_cons sub\nsub;;List.Sublist.append_left;? _;sub\nsub;.List.Sublist.refl\npick;+Pks.cons pk1 pick\npick;=Pks.nil\npk1;~+Pk1.appR pk1\npk1;+Pk1.tail pk1\npk1;=Pk1.head\nret;*Ret.cases ^_ ^_\nret;*Ret.ty\nret;*Ret.bi\nret;*Ret.bool\nret;*Ret.none\nret;*Ret.str ^_\nret;*Ret.ref\nret;*Ret.int ^_\nkit;KitV.of;mb ktp\nkit;~+KitV.none\nkit;~+KitV.str\nkit;~+KitV.int\nktp;~+KitP.fn\nktp;~+KitP.tup\nktp;~+KitP.list\nktp;~+KitP.dict\nite;;wp_if_neg;a ?;\nite;;wp_if_pos;ar ?;\nar;!r\nar;!a\ntes;!t !t !t sub\ntes;!t !t sub\ntes;!t sub\ntes;sub\nexec Assign;;plainObj_wpAny_Assign_Attribute;? ?;!t &!r\ndec;!d\nrle;Rm.le;@hA1 dec dec\nirg;^p ^hp rgin\nrgin;;List.mem_append_right;_ ?;rgin\nrgin;;List.mem_cons_of_mem;_ ?;rgin\nrgin;;List.mem_append_left;_ @hp;\nrgin;;hZr;_ @hp;\npk1r;~+Pk1.appR pk1r\npk1r;~+Pk1.tail pk1r\npk1r;=Pk1.head\npickr;~+Pks.cons pk1r pickr\npickr;=Pks.nil\ncl;-H -s\nsb;|x\neval Dict;;r_dict0;:PySem.strKind st ?;in3\ns3;%_,_,_\ns2;%_,_\ns1;%Value.ref\nst2;%_,Value.type\nsr2;%_,Value.ref\nne;+Ne2.tail ne\nne;Ne2.r;mb\nne;Ne2.l;mb\nin2;cl ^s ^H\nin3;cl ^_ ^s ^H\nin4;cl ^_ ^s ^_ ^H\nin6;cl ^_ ^_ ^s ^_ ^_ ^H\nin8;cl ^_ ^_ ^_ ^_ ^_ ^s ^_ ^H\nexec Expr;*wpAny_Expr_any\nexec While;*wpAny_While\nexec For;*wpAny_For\ncn;+List.cons_ne_nil\ngetAttr ref;#_nodes;p_nodes;_ _ @hB rle @H mb mb mb mb ?;cl ^s ^H\ncompareOp In str ref;;r_set_in;st mb size asm ?;cl ^s ^H\ngetMethod ref;;m_set_add;st mb size ?;\ncall builtin:set.add;;r_set_add;st up size asm ?;cl ^s ^H\ncall builtin:len;;r_set_len;st mb size ?;cl ^_ ^s ^H\ncall type:set nil nil;;r_set_new;st ?;cl ^_ ^s ^H\ncall type:enumerate;;r_enum;st mb ?;cl ^_ ^_ ^s ^_ ^H\ncall builtin:len;;r_len_dict;st mb sysm size ?;cl ^_ ^s ^H\ncall ref;D$403;take';@hB rle st up size ?;cl ^_ ^s ^H\ngetMethod ref;;law_meth;@hB st irg mb ?;\ngetAttr ref;#conf;p_conf;@hB rle st irg ?;cl ^s ^H".splitOn "\n").filterMap (Mc.syE k.getString)) with
    | [] => Lean.Macro.throwUnsupported
    | l => pure (Mc.syO l)
set_option hygiene false in
local macro_rules | `(tactic| walk_at "sap") => `(tactic| (try simp only [List.cons_append, List.nil_append] at *))
set_option hygiene false in
local macro_rules | `(tactic| walk_at "mb") => `(tactic| k_dflt (first | with_reducible apply List.mem_cons_self | (with_reducible apply List.mem_cons_of_mem; walk_at "mb") | ((fail_if_success (with_reducible apply List.mem_cons_of_mem)); first | with_reducible assumption | (with_reducible apply List.mem_append_left; walk_at "mb") | (with_reducible apply List.mem_append_right; walk_at "mb"))))
set_option hygiene false in
local macro_rules | `(tactic| walk_at "st") => `(tactic| k_dflt (first | with_reducible exact H | exact S.tk H | exact S.tk (S.tk H) | (refine S.tkTo H ?_ ?_ ?_ <;> rfl)))
set_option hygiene false in
local macro_rules | `(tactic| walk_at "size") => `(tactic| k_dflt (first | with_reducible assumption | exact Nat.le_of_ble_eq_true rfl | exact Nat.le_trans (by with_reducible assumption) (Nat.le_of_ble_eq_true rfl) | omega | (simp only [List.length_map, List.length_cons, List.length_nil, List.length_append, List.length_range]; omega)))
set_option hygiene false in
local macro_rules | `(tactic| walk_at "units") => `(tactic| k_dflt (have hh9 := Rm.units (by assumption); exact hh9))
set_option hygiene false in
local macro_rules | `(tactic| walk_at "hd") => `(tactic| k_dflt (first | assumption | (have hh9 := Rm.hd (by assumption); exact hh9)))
set_option hygiene false in
local macro_rules | `(tactic| walk_at "le") => `(tactic| k_dflt (refine Nat.le_trans ?_ sizeLine_ge; (try simp only [Str.length_append]); omega))

namespace Mc
noncomputable abbrev gl : List (Str × Value) := [("KeyError", .type "KeyError"), ("sorted", .builtin "sorted"), ("range", .type "range"), ("len", .builtin "len"), ("bisect", .ref 129), ("isinstance", .builtin "isinstance"), ("int", .type "int"), ("str", .type "str"), ("dict", .type "dict"), ("list", .type "list"), ("tuple", .type "tuple"), ("set", .type "set"), ("bytes", .type "bytes"), ("ord", .builtin "ord"), ("enumerate", .type "enumerate"), ("TypeError", .type "TypeError"), ("ValueError", .type "ValueError"), ("KetamaRing", .ref 75), ("MetaRing", .ref 118), ("HashRing", .ref 392), ("_law_take", .ref 403)]
noncomputable abbrev own118 : List Str := ["_distribution", "_keys", "_node_points", "_nodes", "_ring", "_hash_fn"]
noncomputable abbrev ms118 : List (Str × Addr) := [("hashi", 101), ("_create_ring", 108), ("_remove_node", 115)]
theorem c118 (w : World) : ClsOk (hK w.params) 118 own118 ms118 [] where
  pg := by kernel_rfl
  hd := by kernel_rfl
  sa := by kernel_rfl
  po := by kernel_rfl
  own := by
    intro n hn
    repeat (rcases List.mem_cons.mp hn with rfl | hn; exact ⟨by kernel_rfl, by kernel_rfl⟩)
    cases hn
  ms := by
    intro n hn
    repeat (rcases List.mem_cons.mp hn with rfl | hn; exact ⟨by kernel_rfl, by kernel_rfl⟩)
    cases hn
  ps := fun p hp => nomatch hp
noncomputable abbrev own390 : List Str := ["runtime", "_default_vnodes", "_weight_fn"]
noncomputable abbrev ms390 : List (Str × Addr) := [("hashi", 150), ("_configure_nodes", 157), ("remove_node", 171), ("add_node", 203), ("_get_pos", 210), ("_get", 217), ("get_node", 245), ("iterate_nodes", 302), ("range", 310)]
noncomputable abbrev ps390 : List (Str × Addr × Addr) := [("conf", 325, 324), ("_nodes", 381, 380)]
theorem c390 (w : World) : ClsOk (hK w.params) 392 own390 ms390 ps390 where
  pg := by kernel_rfl
  hd := by kernel_rfl
  sa := by kernel_rfl
  po := by kernel_rfl
  own := by
    intro n hn
    repeat (rcases List.mem_cons.mp hn with rfl | hn; exact ⟨by kernel_rfl, by kernel_rfl⟩)
    cases hn
  ms := by
    intro n hn
    repeat (rcases List.mem_cons.mp hn with rfl | hn; exact ⟨by kernel_rfl, by kernel_rfl⟩)
    cases hn
  ps := by
    intro n hn
    repeat (rcases List.mem_cons.mp hn with rfl | hn; exact ⟨by kernel_rfl, by kernel_rfl, by kernel_rfl, _, rfl⟩)
    cases hn
noncomputable abbrev vi (i : Int) : Value := .int i 0
noncomputable abbrev vs (x : Str) : Value := .str x 0
/-- a point that is the name's goes -/
noncomputable def dropP (name : Str) (rl : List (Int × Value)) (p : Int) : List (Int × Value) := if valueAt rl p = some (vs name) then without rl p else rl
theorem without_len {α : Type} [DecidableEq α] (l : List (α × Value)) (k : α) : (without l k).length ≤ l.length := List.length_filter_le _ _
theorem dropP_len (name : Str) (rl : List (Int × Value)) (p : Int) : (dropP name rl p).length ≤ rl.length := by
  unfold dropP; split
  · exact without_len _ _
  · exact Nat.le_refl _
theorem dropPs_len (name : Str) (ps : List Int) : ∀ rl : List (Int × Value), (ps.foldl (dropP name) rl).length ≤ rl.length := by
  induction ps with
  | nil => intro rl; exact Nat.le_refl _
  | cons p ps ih => intro rl; exact Nat.le_trans (ih _) (dropP_len _ _ _)
noncomputable def Strs (rl : List (Int × Value)) : Prop := ∀ p ∈ rl, ∃ n, p.2 = vs n
theorem Strs.dropP {name : Str} {rl : List (Int × Value)} {p : Int} (h : Strs rl) : Strs (dropP name rl p) := by
  unfold Mc.dropP; split
  · exact fun q hq => h q (List.mem_filter.mp hq).1
  · exact h
theorem Strs.dropPs {name : Str} {ps : List Int} : ∀ {rl : List (Int × Value)}, Strs rl → Strs (ps.foldl (Mc.dropP name) rl) := by
  induction ps with
  | nil => exact id
  | cons p ps ih => exact fun h => ih h.dropP
theorem Strs.at {rl : List (Int × Value)} {p : Int} {X : Value} (h : Strs rl) (hv : valueAt rl p = some X) : ∃ n, X = vs n := by
  unfold valueAt at hv
  obtain ⟨q, hq, rfl⟩ := Option.map_eq_some_iff.mp hv
  exact h q (List.mem_of_find?_eq_some hq)
noncomputable abbrev rtA (dist ka npts nodes rg : Addr) (hh : Value) : List (Str × Value) := [("_distribution", .ref dist), ("_keys", .ref ka), ("_node_points", .ref npts), ("_nodes", .ref nodes), ("_ring", .ref rg), ("_hash_fn", hh)]
theorem int_of_er {v : Value} {i : Int} (he : er v = .int i 0) : ∃ t, v = .int i t := by
  cases v <;> simp [er] at he
  subst he; exact ⟨_, rfl⟩
theorem str_of_er {v : Value} {i : Str} (he : er v = .str i 0) : ∃ t, v = .str i t := by
  cases v <;> simp [er] at he
  subst he; exact ⟨_, rfl⟩
theorem ref_of_er {v : Value} {i : Addr} (he : er v = .ref i) : v = .ref i := by
  cases v <;> simp [er] at he
  rw [he]
/-- the hash handed in: it changes nothing -/
structure HOk (w : World) (C : Cx) (ha : Addr) (hIts : List Item) (h : Str → Int) (dom : Str → Prop) : Prop where
  fn : ∀ its s, S C its s → (∀ p ∈ hIts, p ∈ its) → FnAt ha s.heap
  run : ∀ (A : Around) its s (Q E : Value → Shared → Prop) key t, dom key → Rm A 3 30 → S C its s → (∀ p ∈ hIts, p ∈ its) → (∀ t' s', S C its s' → Q (.int (h key) t') s') → wpAny (model PP w) A (call (.ref ha) [.str key t]) Q E s
noncomputable def keyN (name : Str) (k : Nat) : Str := Str.empty ++ name ++ PySem.Str.ofString "-" ++ PySem.Str.ofString (toString (k : Int))
theorem len_dash : (PySem.Str.ofString "-").length = 1 := by decide +kernel
theorem len_empty : Str.empty.length = 0 := rfl
theorem len_digits {k : Nat} (h : k < 10 ^ 9) : (PySem.Str.ofString (toString (k : Int))).length ≤ 10 := by
  rw [PySem.ofString_length]
  exact int_text_length_le10 (k := 9) (by decide) (by simpa using h)

end Mc

namespace Mc
theorem none_of_er {v : Value} (h : er v = .none) : v = .none := by cases v <;> simp [er] at h <;> rfl
theorem Strs.opt {rl : List (Int × Value)} (h : Strs rl) (p : Int) : valueAt rl p = none ∨ ∃ n, valueAt rl p = some (vs n) := by
  cases hv : valueAt rl p with
  | none => exact .inl rfl
  | some Y => obtain ⟨n, rfl⟩ := h.at hv; exact .inr ⟨n, rfl⟩
/-- a name or None against a name -/
theorem eq_sc {w : World} {A : Around} {E : Value → Shared → Prop} {s : Shared} {Q : Value → Shared → Prop} {u : Value} {X : Option Value} {name : Str} {t : Tok} (hu : er u = er (X.getD .none)) (hX : X = none ∨ ∃ n, X = some (vs n)) (h : Q (.bool (decide (X = some (vs name)))) s) :
    wpAny (model PP w) A (compareOp .Eq u (.str name t)) Q E s := by
  rcases hX with rfl | ⟨n, rfl⟩
  · obtain rfl := none_of_er hu
    rw [decide_eq_false (by simp)] at h
    walk1
    exact h
  · obtain ⟨t2, rfl⟩ := str_of_er hu
    have e : decide (some (vs n) = some (vs name)) = (n == name) := by
      by_cases q : n = name
      · subst q; simp
      · rw [decide_eq_false (fun e => q (by simpa [vs] using e))]; symm; simpa using q
    rw [e] at h
    walk1
    exact h
theorem rm (w : World) (C : Cx) (hB : Bs PP w (hK w.params) gl C) (rt rtd dist ka npts nodes rg l : Addr) (dl : List (Str × Value)) (nl pl : List (Str × Value)) (rl : List (Int × Value)) (ks : List Value) (ps : List Int) (name : Str) (t : Tok)
   (ndr : Addr) (hh : Value) (hn : valueAt nl name = some (.ref ndr)) (hp : valueAt pl name = some (.ref l)) (X : Int) (hd : valueAt dl name = some (.int X 0)) (h1 : (nodes == sysModules) = false) (h2 : (rg == sysModules) = false)
  (l1 : nl.length ≤ 1000) (l2 : pl.length ≤ 1000) (l3 : dl.length ≤ 1000) (l4 : rl.length < 64) (hst : Strs rl) :
  T3 PP w C 1 10 [(rt, InstI 118 rtd), (rtd, DictI (sk PP w) (rtA dist ka npts nodes rg hh) none),
    (dist, DictI (sk PP w) dl none), (ka, ListI ks), (npts, DictI (sk PP w) pl none), (nodes, DictI (sk PP w) nl none), (rg, DictI (ik PP w) rl none), (l, ListI (ps.map vi))] (call (.ref 115) [.ref rt, .str name t])
    (fun v P' => v = .none ∧ ∃ (ka' : Addr) (ns : List Int), ns.Perm ((ps.foldl (dropP name) rl).map (·.1)) ∧ ns.Pairwise (· ≤ ·) ∧ P' = [(rt, InstI 118 rtd), (rtd, DictI (sk PP w) (rtA dist ka' npts nodes rg hh) none),
    (dist, DictI (sk PP w) (without dl name) none), (ka', ListI (ns.map vi)), (npts, DictI (sk PP w) (without pl name) none), (nodes, DictI (sk PP w) (without nl name) none), (rg, DictI (ik PP w) (ps.foldl (dropP name) rl) none)]) := by
  intro A rest s Q E hA H hQ
  simp only [List.cons_append, List.nil_append] at H
  refine wpAny_call ?_
  refine call_fnL H hB (hB.k H 115 _ rfl) rfl (codeRec_of (hB.k H) (by kernel_rfl)) rfl hA (BindsTo.of_eq rfl) (by kernel_rfl) (by kernel_rfl) (loc := [("self", some (.ref rt)), ("node_name", some (.str name 0)), ("points", none), ("point", none)]) (by kernel_rfl) rfl ?_
  intro L s A1 E1 hA1 H env
  repeat' walk1
  rename_i it hit
  refine for_nx1 (nx_list l (ps.map vi) hit) hA1.hd (fun i its' => ∃ pv, its' = [(L, NsI [("self", some (.ref rt)), ("node_name", some (.str name 0)), ("points", some (.ref l)), ("point", pv)]), (rt, InstI 118 rtd), (rtd, DictI (sk PP w) (rtA dist ka npts nodes rg hh) none),
    (dist, DictI (sk PP w) (without dl name) none), (ka, ListI ks), (npts, DictI (sk PP w) (without pl name) none), (nodes, DictI (sk PP w) (without nl name) none), (rg, DictI (ik PP w) ((ps.take i).foldl (dropP name) rl) none), (l, ListI (ps.map vi))] ++ rest) ?_ ⟨none, rfl⟩ H ?_ ?_
  · rintro i l' ⟨pv, rfl⟩
    walk_at "mb"
  · rintro i v l' s E' hi ⟨X', hx, he⟩ ⟨pv, rfl⟩ H QI hQI
    simp only [List.cons_append, List.nil_append] at H
    rw [List.length_map] at hi
    rw [List.getElem?_map, List.getElem?_eq_getElem hi] at hx
    cases hx
    obtain ⟨t, rfl⟩ : ∃ t, v = .int ps[i] t := by
      cases v <;> simp [er, vi] at he
      subst he; exact ⟨_, rfl⟩
    have hlen := dropPs_len name (ps.take i) rl
    have hs := Strs.dropPs (name := name) (ps := ps.take i) hst
    have hstep : (ps.take (i + 1)).foldl (dropP name) rl = dropP name ((ps.take i).foldl (dropP name) rl) ps[i] := by
      rw [List.take_add_one, List.getElem?_eq_getElem hi, List.foldl_append]; rfl
    rw [hstep] at hQI
    generalize (ps.take i).foldl (dropP name) rl = rr at *
    iterate 13 walk1
    refine r_get1 (by walk_at "st") (by walk_at "key") h2 (by walk_at "mb") fun s H => Ret.cases fun u hu => ?_
    iterate 1 walk1
    refine eq_sc hu (hs.opt _) ?_
    have hff : ¬ false = true := Bool.false_ne_true
    by_cases hg : valueAt rr ps[i] = some (vs name)
    · rw [decide_eq_true hg]
      rw [show dropP name rr ps[i] = without rr ps[i] from if_pos hg] at hQI
      repeat' walk1
      exact hQI _ _ (TurnEnd.next ⟨_, rfl⟩ (S.tkTo H rfl rfl rfl))
    · rw [decide_eq_false hg]
      rw [show dropP name rr ps[i] = rr from if_neg hg] at hQI
      repeat' walk1
      exact hQI _ _ (TurnEnd.next ⟨_, rfl⟩ (S.tkTo H rfl rfl rfl))
  · rintro l' s E' ⟨pv, rfl⟩ H
    simp only [List.cons_append, List.nil_append] at H
    rw [List.take_of_length_le (by simp)] at H
    have hlen := dropPs_len name ps rl
    repeat' walk1
    exact hQ _ _ _ ⟨rfl, _, _, by assumption, by assumption, rfl⟩ (S.pick (by walk_at "st") (by walk_at "pick") (by walk_at "sub"))
theorem hashi_ok (w : World) (C : Cx) (hB : Bs PP w (hK w.params) gl C) (rt rtd dist ka npts nodes rg ha : Addr) (hIts : List Item) (h : Str → Int) (dom : Str → Prop) (hh : HOk w C ha hIts h dom)
   (A : Around) (its : List Item) (s : Shared) (Q E : Value → Shared → Prop) (key : Str) (t : Tok) (hk : dom key) (hA : Rm A 4 40) (H : S C its s) (hi : ∀ p ∈ hIts, p ∈ its) (h1 : (rt, InstI 118 rtd) ∈ its) (h2 : (rtd, DictI (sk PP w) (rtA dist ka npts nodes rg (.ref ha)) none) ∈ its)
   (hQ : ∀ t' s', S C its s' → Q (.int (h key) t') s') : wpAny (model PP w) A (call (.ref 101) [.ref rt, .str key t]) Q E s := by
  refine wpAny_call ?_
  refine call_fnL H hB (hB.k H 101 _ rfl) rfl (codeRec_of (hB.k H) (by kernel_rfl)) rfl hA (BindsTo.of_eq rfl) (by kernel_rfl) (by kernel_rfl) (loc := [("self", some (.ref rt)), ("key", some (.str key 0))]) (by kernel_rfl) rfl ?_
  intro L s A1 E1 hA1 H env
  have hi' : ∀ {q : Item} , ∀ p ∈ hIts, p ∈ q :: its := fun p hp => .tail _ (hi p hp)
  repeat' walk1
  refine callWith_F (hh.fn _ _ (by assumption) hi') ?_
  repeat' walk1
  · exact hh.fn _ _ (by assumption) hi'
  · exact hh.run _ _ _ _ _ _ _ hk (hA1.le (by decide) (by decide)) (by assumption) hi' fun t' s' H' => hQ _ _ H'.tail

end Mc

namespace Mc
structure MS where
  dl : List (Str × Value)
  pl : List (Str × Addr × List Int)
  rl : List (Int × Value)
noncomputable abbrev Pl := List (Str × Addr × List Int)
noncomputable def plK (pl : Pl) : List (Str × Value) := pl.map fun p => (p.1, .ref p.2.1)
noncomputable def ptsIts (pl : Pl) : List Item := pl.map fun p => (p.2.1, ListI (p.2.2.map vi))
noncomputable def plW (pl : Pl) (name : Str) : Pl := pl.filter fun p => decide (p.1 ≠ name)
noncomputable def olds (pl : Pl) (name : Str) : List Int := ((pl.find? fun p => decide (p.1 = name)).map (·.2.2)).getD []
noncomputable def layR (h : Str → Int) (name : Str) (cnt : Nat) (rl : List (Int × Value)) : List (Int × Value) := (List.range cnt).foldl (fun rl k => stored rl (h (keyN name k)) (vs name)) rl
noncomputable def distK (dl : List (Str × Value)) (name : Str) (k : Nat) : List (Str × Value) := if k = 0 then dl else dl ++ [(name, vi k)]
noncomputable def layF (h : Str → Int) (name : Str) (cnt : Nat) (a : Addr) (m : MS) : MS :=
  { dl := without m.dl name ++ [(name, vi cnt)], pl := plW m.pl name ++ [(name, a, (List.range cnt).map fun k => h (keyN name k))], rl := layR h name cnt ((olds m.pl name).foldl (dropP name) m.rl) }
structure El where
  name : Str
  cn : Addr
  v : Int
  wt : Int
noncomputable def El.cnt (e : El) : Nat := (e.v * e.wt - 0).toNat
inductive Lays (h : Str → Int) (m : MS) : List El → MS → Prop
  | nil : Lays h m [] m
  | snoc {es e a m'} : Lays h m es m' → Lays h m (es ++ [e]) (layF h e.name e.cnt a m')
structure Good (m : MS) : Prop where
  nd : (m.pl.map (·.1)).Nodup
  sub : ∀ n, n ∈ m.dl.map (·.1) → n ∈ m.pl.map (·.1)
  ne : ∀ p ∈ m.pl, p.2.2 ≠ []
  st : Strs m.rl
  has : ∀ n, n ∈ m.pl.map (·.1) → ∃ c : Int, valueAt m.dl n = some (vi c)
  sh : ∀ p ∈ m.pl, p.2.2.length ≤ 1000000
noncomputable def ConfOk (w : World) (rest : List Item) (e : El) : Prop := ∃ kvs, (e.cn, DictI (sk PP w) kvs none) ∈ rest ∧ valueAt kvs "vnodes" = some (vi e.v) ∧ valueAt kvs "weight" = some (vi e.wt) ∧ 1 ≤ e.v ∧ e.v ≤ 1000 ∧ 1 ≤ e.wt ∧ e.wt ≤ 1000

theorem valueAt_isSome {α : Type} [DecidableEq α] {l : List (α × Value)} {k : α} : (valueAt l k).isSome = true ↔ k ∈ l.map (·.1) := by
  unfold valueAt
  rw [Option.isSome_map, List.find?_isSome]
  constructor
  · rintro ⟨p, hp, e⟩; exact List.mem_map.mpr ⟨p, hp, of_decide_eq_true e⟩
  · intro h; obtain ⟨p, hp, e⟩ := List.mem_map.mp h; exact ⟨p, hp, decide_eq_true e⟩
theorem valueAt_none {α : Type} [DecidableEq α] {l : List (α × Value)} {k : α} (h : k ∉ l.map (·.1)) : valueAt l k = none := by
  unfold valueAt
  rw [Option.map_eq_none_iff, List.find?_eq_none]
  intro p hp e
  exact h (by rw [← of_decide_eq_true e]; exact List.mem_map_of_mem (f := (·.1)) hp)
theorem without_none {α : Type} [DecidableEq α] {l : List (α × Value)} {k : α} (h : k ∉ l.map (·.1)) : without l k = l := without_of_not_mem l k h
theorem without_keys {α : Type} [DecidableEq α] {l : List (α × Value)} {k j : α} : j ∈ (without l k).map (·.1) ↔ j ∈ l.map (·.1) ∧ j ≠ k := by
  unfold without
  simp only [List.mem_map, List.mem_filter, decide_eq_true_eq]
  constructor
  · rintro ⟨p, ⟨h1, h2⟩, rfl⟩; exact ⟨⟨p, h1, rfl⟩, h2⟩
  · rintro ⟨⟨p, h1, rfl⟩, h2⟩; exact ⟨p, ⟨h1, h2⟩, rfl⟩
theorem plK_keys {pl : Pl} : (plK pl).map (·.1) = pl.map (·.1) := by unfold plK; rw [List.map_map]; rfl
theorem plK_without {pl : Pl} {name : Str} : without (plK pl) name = plK (plW pl name) := by unfold plK plW without; rw [List.filter_map]; rfl
theorem plW_none {pl : Pl} {name : Str} (h : name ∉ pl.map (·.1)) : plW pl name = pl := by
  unfold plW
  rw [List.filter_eq_self]
  intro p hp
  simp only [decide_eq_true_eq]
  exact fun e => h (by rw [← e]; exact List.mem_map_of_mem (f := (·.1)) hp)
theorem plW_mid {pl1 pl2 : Pl} {name : Str} {l : Addr} {ps : List Int} (nd : ((pl1 ++ (name, l, ps) :: pl2).map (·.1)).Nodup) : plW (pl1 ++ (name, l, ps) :: pl2) name = pl1 ++ pl2 := by
  rw [List.map_append, List.map_cons, List.nodup_append, List.nodup_cons] at nd
  obtain ⟨n1, ⟨n2, n3⟩, n4⟩ := nd
  have e1 : plW pl1 name = pl1 := plW_none fun h => n4 _ h _ (.head _) rfl
  have e2 : plW pl2 name = pl2 := plW_none n2
  unfold plW at *
  rw [List.filter_append, List.filter_cons, e1, e2]
  simp
theorem olds_none {pl : Pl} {name : Str} (h : name ∉ pl.map (·.1)) : olds pl name = [] := by
  unfold olds
  rw [List.find?_eq_none.mpr fun p hp e => h (by rw [← of_decide_eq_true e]; exact List.mem_map_of_mem (f := (·.1)) hp)]
  rfl
theorem olds_mid {pl1 pl2 : Pl} {name : Str} {l : Addr} {ps : List Int} (nd : ((pl1 ++ (name, l, ps) :: pl2).map (·.1)).Nodup) : olds (pl1 ++ (name, l, ps) :: pl2) name = ps := by
  rw [List.map_append, List.map_cons, List.nodup_append, List.nodup_cons] at nd
  obtain ⟨n1, ⟨n2, n3⟩, n4⟩ := nd
  unfold olds
  rw [List.find?_append, List.find?_eq_none.mpr fun p hp e => n4 p.1 (List.mem_map_of_mem (f := (·.1)) hp) name (.head _) (of_decide_eq_true e)]
  rw [Option.none_or, List.find?_cons, decide_eq_true rfl]
  rfl
theorem distK_step {dl : List (Str × Value)} {name : Str} {k : Nat} (h : name ∉ dl.map (·.1)) : stored (distK dl name k) name (vi ((k : Int) + 1)) = distK dl name (k + 1) := by
  unfold distK
  rw [if_neg (Nat.succ_ne_zero k)]
  have hc : (dl.map (·.1)).contains name = false := by
    cases q : (dl.map (·.1)).contains name with
    | false => rfl
    | true => exact absurd (List.contains_iff_mem.mp q) h
  by_cases hk : k = 0
  · subst hk; rw [if_pos rfl, stored_new hc]; rfl
  · rw [if_neg hk]
    unfold stored
    rw [List.any_append, show ([(name, vi (k : Int))].any fun kv => decide (kv.1 = name)) = true from by simp, Bool.or_true, if_pos rfl, List.map_append, map_store_of_not_mem dl name _ h]
    simp
theorem distK_at {dl : List (Str × Value)} {name : Str} {k : Nat} (h : name ∉ dl.map (·.1)) : valueAt (distK dl name k) name = if k = 0 then none else some (vi k) := by
  unfold distK
  by_cases hk : k = 0
  · rw [if_pos hk, if_pos hk]; exact valueAt_none h
  · rw [if_neg hk, if_neg hk]
    unfold valueAt
    rw [List.find?_append, List.find?_eq_none.mpr fun p hp e => h (by rw [← of_decide_eq_true e]; exact List.mem_map_of_mem (f := (·.1)) hp)]
    simp
theorem valueAt_app_ne {α : Type} [DecidableEq α] {l : List (α × Value)} {k j : α} {v : Value} (h : j ≠ k) : valueAt (l ++ [(k, v)]) j = valueAt l j := by
  unfold valueAt
  rw [List.find?_append]
  have : (List.find? (fun kv : α × Value => decide (kv.1 = j)) [(k, v)]) = none := by simp [Ne.symm h]
  rw [this, Option.or_none]
theorem valueAt_without {α : Type} [DecidableEq α] {l : List (α × Value)} {k j : α} (h : j ≠ k) : valueAt (without l k) j = valueAt l j := by
  unfold valueAt without
  rw [List.find?_filter]
  congr 2
  funext p
  by_cases q : p.1 = j
  · subst q; simp [h]
  · simp [q]
theorem layR_step {h : Str → Int} {name : Str} {k : Nat} {rl : List (Int × Value)} : layR h name (k + 1) rl = stored (layR h name k rl) (h (keyN name k)) (vs name) := by
  unfold layR; rw [List.range_succ, List.foldl_append]; rfl
theorem stored_len {α : Type} [DecidableEq α] (l : List (α × Value)) (k : α) (v : Value) : (stored l k v).length ≤ l.length + 1 := by unfold stored; split <;> simp
theorem layR_len (h : Str → Int) (name : Str) (rl : List (Int × Value)) : ∀ k, (layR h name k rl).length ≤ rl.length + k
  | 0 => Nat.le_refl _
  | k + 1 => by rw [layR_step]; have := stored_len (layR h name k rl) (h (keyN name k)) (vs name); have := layR_len h name rl k; omega
theorem Strs.stored {rl : List (Int × Value)} {p : Int} {n : Str} (h : Strs rl) : Strs (stored rl p (vs n)) := by
  intro q hq
  unfold PySem.stored at hq
  split at hq
  · obtain ⟨r, hr, rfl⟩ := List.mem_map.mp hq
    split
    · exact ⟨n, rfl⟩
    · exact h r hr
  · rcases List.mem_append.mp hq with hq | hq
    · exact h q hq
    · rw [List.mem_singleton] at hq; subst hq; exact ⟨n, rfl⟩
theorem Strs.layR {h : Str → Int} {name : Str} {rl : List (Int × Value)} (hs : Strs rl) : ∀ k, Strs (layR h name k rl)
  | 0 => hs
  | k + 1 => by rw [layR_step]; exact (hs.layR k).stored
theorem Good.layF {h : Str → Int} {name : Str} {cnt : Nat} {a : Addr} {m : MS} (g : Good m) (hc : 1 ≤ cnt ∧ cnt ≤ 1000000) : Good (layF h name cnt a m) := by
  have hnot : name ∉ (plW m.pl name).map (·.1) := by
    unfold plW
    intro h
    obtain ⟨p, hp, e⟩ := List.mem_map.mp h
    exact (of_decide_eq_true (List.mem_filter.mp hp).2) e
  refine ⟨?_, ?_, ?_, ?_, ?_, ?_⟩
  · show ((plW m.pl name ++ _).map _).Nodup
    rw [List.map_append, List.nodup_append]
    refine ⟨(g.nd.sublist (List.Sublist.map _ List.filter_sublist)), by simp, fun x hx y hy e => ?_⟩
    simp only [List.map_cons, List.map_nil, List.mem_singleton] at hy
    subst hy e
    exact hnot hx
  · intro n hn
    show n ∈ (plW m.pl name ++ _).map _
    have hn : n ∈ (without m.dl name ++ [(name, vi cnt)]).map (·.1) := hn
    rw [List.map_append, List.mem_append] at hn ⊢
    rcases hn with hn | hn
    · obtain ⟨h1, h2⟩ := without_keys.mp hn
      obtain ⟨p, hp, rfl⟩ := List.mem_map.mp (g.sub n h1)
      exact .inl (List.mem_map_of_mem (f := (·.1)) (List.mem_filter.mpr ⟨hp, by simpa using h2⟩))
    · exact .inr (by simpa using hn)
  · intro p hp
    have hp : p ∈ plW m.pl name ++ [(name, a, (List.range cnt).map fun k => h (keyN name k))] := hp
    rcases List.mem_append.mp hp with hp | hp
    · exact g.ne p (List.mem_filter.mp hp).1
    · rw [List.mem_singleton] at hp
      subst hp
      intro e
      have := congrArg List.length e
      simp at this
      omega
  · exact (Strs.dropPs g.st).layR _
  · intro n hn
    have hn : n ∈ (plW m.pl name ++ [(name, a, (List.range cnt).map fun k => h (keyN name k))]).map (·.1) := hn
    show ∃ c : Int, valueAt (without m.dl name ++ [(name, vi cnt)]) n = some (vi c)
    by_cases e : n = name
    · subst e
      refine ⟨cnt, ?_⟩
      have := distK_at (dl := without m.dl n) (name := n) (k := cnt) (fun h => (without_keys.mp h).2 rfl)
      unfold distK at this
      rw [if_neg (by omega), if_neg (by omega)] at this
      exact this
    · rw [List.map_append, List.mem_append] at hn
      rcases hn with hn | hn
      · obtain ⟨p, hp, rfl⟩ := List.mem_map.mp hn
        obtain ⟨c, hc'⟩ := g.has p.1 (List.mem_map_of_mem (f := (·.1)) (List.mem_filter.mp hp).1)
        refine ⟨c, ?_⟩
        rw [valueAt_app_ne e, valueAt_without e]
        exact hc'
      · simp at hn
        exact absurd hn e
  · intro p hp
    have hp : p ∈ plW m.pl name ++ [(name, a, (List.range cnt).map fun k => h (keyN name k))] := hp
    rcases List.mem_append.mp hp with hp | hp
    · exact g.sh p (List.mem_filter.mp hp).1
    · rw [List.mem_singleton] at hp
      subst hp
      simp only [List.length_map, List.length_range]
      exact hc.2
theorem Lays.good {h : Str → Int} {m : MS} (g : Good m) {es : List El} {m' : MS} (h1 : Lays h m es m') (hc : ∀ e ∈ es, 1 ≤ e.cnt ∧ e.cnt ≤ 1000000) : Good m' := by
  induction h1 with
  | nil => exact g
  | @snoc es e a m' h1 ih => exact (ih fun e he => hc e (List.mem_append_left _ he)).layF (hc e (List.mem_append_right _ (.head _)))
theorem Lays.rl_len {h : Str → Int} {m : MS} {es : List El} {m' : MS} (h1 : Lays h m es m') : m'.rl.length ≤ m.rl.length + (es.map El.cnt).sum := by
  induction h1 with
  | nil => exact Nat.le_add_right _ _
  | @snoc es e a m₁ h1 i1 =>
    have i2 : (layF h e.name e.cnt a m₁).rl.length ≤ _ := layR_len h e.name ((olds m₁.pl e.name).foldl (dropP e.name) m₁.rl) e.cnt
    have i3 := dropPs_len e.name (olds m₁.pl e.name) m₁.rl
    rw [List.map_append, List.sum_append]
    exact Nat.le_trans i2 (Nat.le_trans (Nat.add_le_add_right (Nat.le_trans i3 i1) _) (Nat.le_of_eq (Nat.add_assoc _ _ _)))
theorem Lays.dl_len {h : Str → Int} {m : MS} {es : List El} {m' : MS} (h1 : Lays h m es m') : m'.dl.length ≤ m.dl.length + es.length := by
  induction h1 with
  | nil => exact Nat.le_add_right _ _
  | @snoc es e a m₁ h1 i1 =>
    have i2 := without_len m₁.dl e.name
    show (without m₁.dl e.name ++ _).length ≤ _
    rw [List.length_append, List.length_append]
    exact Nat.le_trans (Nat.add_le_add_right (Nat.le_trans i2 i1) _) (Nat.le_of_eq (Nat.add_assoc _ _ _))
theorem Lays.pl_len {h : Str → Int} {m : MS} {es : List El} {m' : MS} (h1 : Lays h m es m') : m'.pl.length ≤ m.pl.length + es.length := by
  induction h1 with
  | nil => exact Nat.le_add_right _ _
  | @snoc es e a m₁ h1 i1 =>
    have i2 : (plW m₁.pl e.name).length ≤ m₁.pl.length := List.length_filter_le _ _
    show (plW m₁.pl e.name ++ _).length ≤ _
    rw [List.length_append, List.length_append]
    exact Nat.le_trans (Nat.add_le_add_right (Nat.le_trans i2 i1) _) (Nat.le_of_eq (Nat.add_assoc _ _ _))
theorem plK_len (pl : Pl) : (plK pl).length = pl.length := List.length_map _
theorem sum_take (l : List Nat) (i : Nat) : (l.take i).sum ≤ l.sum := by
  have := congrArg List.sum (List.take_append_drop i l)
  rw [List.sum_append] at this
  omega
theorem distK_len (dl : List (Str × Value)) (name : Str) (k : Nat) : (distK dl name k).length ≤ dl.length + 1 := by unfold distK; split <;> simp
theorem turn_perm {x : Item} {A N Q R : List Item} : (x :: (A ++ (N ++ (Q ++ R)))).Perm (A ++ (N ++ ((Q ++ [x]) ++ R))) := by
  have := (List.perm_middle (a := x) (l₁ := A ++ (N ++ Q)) (l₂ := R)).symm
  simpa [List.append_assoc] using this
theorem ptsIts_snoc {pl : Pl} {name : Str} {a : Addr} {ps : List Int} : ptsIts (pl ++ [(name, a, ps)]) = ptsIts pl ++ [(a, ListI (ps.map vi))] := by unfold ptsIts; rw [List.map_append]; rfl
theorem plK_snoc {pl : Pl} {name : Str} {a : Addr} {ps : List Int} (h : name ∉ pl.map (·.1)) : stored (plK pl) name (.ref a) = plK (pl ++ [(name, a, ps)]) := by
  have hc : ((plK pl).map (·.1)).contains name = false := by
    rw [plK_keys]
    cases q : (pl.map (·.1)).contains name with
    | false => rfl
    | true => exact absurd (List.contains_iff_mem.mp q) h
  rw [stored_new hc]; unfold plK; rw [List.map_append]; rfl
theorem plW_not {pl : Pl} {name : Str} : name ∉ (plW pl name).map (·.1) := by
  unfold plW
  intro h
  obtain ⟨p, hp, e⟩ := List.mem_map.mp h
  exact (of_decide_eq_true (List.mem_filter.mp hp).2) e
theorem plK_at {pl1 pl2 : Pl} {name : Str} {l : Addr} {ps : List Int} (nd : ((pl1 ++ (name, l, ps) :: pl2).map (·.1)).Nodup) : valueAt (plK (pl1 ++ (name, l, ps) :: pl2)) name = some (.ref l) := by
  rw [List.map_append, List.map_cons, List.nodup_append] at nd
  obtain ⟨n1, n2, n4⟩ := nd
  have hn : name ∉ pl1.map (·.1) := fun h => n4 _ h _ (.head _) rfl
  unfold valueAt plK
  rw [List.map_append, List.find?_append, List.find?_eq_none.mpr fun p hp e => ?_]
  · simp
  · obtain ⟨q, hq, rfl⟩ := List.mem_map.mp hp
    exact hn (by rw [← of_decide_eq_true e]; exact List.mem_map_of_mem (f := (·.1)) hq)
theorem pts_perm {pl1 pl2 : Pl} {name : Str} {l : Addr} {ps : List Int} {A N R : List Item} : (A ++ (N ++ (ptsIts (pl1 ++ (name, l, ps) :: pl2) ++ R))).Perm (A ++ ([(l, ListI (ps.map vi))] ++ (N ++ (ptsIts (pl1 ++ pl2) ++ R)))) := by
  refine List.Perm.append_left A ?_
  have : ptsIts (pl1 ++ (name, l, ps) :: pl2) = ptsIts pl1 ++ (l, ListI (ps.map vi)) :: ptsIts pl2 := by unfold ptsIts; rw [List.map_append]; rfl
  have e2 : ptsIts (pl1 ++ pl2) = ptsIts pl1 ++ ptsIts pl2 := by unfold ptsIts; rw [List.map_append]
  rw [this, e2]
  have := List.perm_middle (a := ((l, ListI (ps.map vi)) : Item)) (l₁ := N ++ ptsIts pl1) (l₂ := ptsIts pl2 ++ R)
  simpa [List.append_assoc] using this
theorem le_sum {els : List El} {i : Nat} (hi : i < els.length) : els[i].cnt ≤ (els.map El.cnt).sum := by
  have h1 := congrArg (fun l => (l.map El.cnt).sum) (List.take_append_drop i els)
  simp only [List.map_append, List.sum_append] at h1
  rw [List.drop_eq_getElem_cons hi] at h1
  simp only [List.map_cons, List.sum_cons] at h1
  omega

end Mc

namespace Mc
/-- how far x goes: all before are at most x, all from there on are more -/
noncomputable def Upto (ns : List Int) (x : Int) (p : Nat) : Prop := p ≤ ns.length ∧ (∀ i (h : i < ns.length), i < p → ns[i] ≤ x) ∧ (∀ i (h : i < ns.length), p ≤ i → x < ns[i])
theorem sorted_le {ns : List Int} (hs : ns.Pairwise (· ≤ ·)) {i j : Nat} (hi : i < ns.length) (hj : j < ns.length) (h : i ≤ j) : ns[i] ≤ ns[j] := by
  rcases Nat.lt_or_eq_of_le h with h | h
  · exact List.pairwise_iff_getElem.mp hs i j hi hj h
  · subst h; exact Int.le_refl _
theorem mid_of {lo hi n : Nat} (h : lo < hi) (b : hi ≤ n) : lo ≤ (lo + hi) / 2 ∧ (lo + hi) / 2 < hi ∧ (lo + hi) / 2 < n ∧ ((lo : Int) + (hi : Int)).fdiv 2 = (((lo + hi) / 2 : Nat) : Int) := by
  have e : ((lo : Int) + (hi : Int)).fdiv 2 = (((lo + hi) / 2 : Nat) : Int) := by
    rw [Int.fdiv_eq_ediv_of_nonneg _ (by decide), ← Int.natCast_add]; rfl
  refine ⟨?_, ?_, ?_, e⟩ <;> (clear e; omega)
theorem bis (w : World) (C : Cx) (hB : Bs PP w (hK w.params) gl C) (l : Addr) (ns : List Int) (hs : ns.Pairwise (· ≤ ·)) (x : Int) (hz : ns.length < 64)
   (A : Around) (its : List Item) (s : Shared) (Q E : Value → Shared → Prop) (t : Tok) (hA : Rm A 1 10) (H : S C its s) (h1 : (l, ListI (ns.map vi)) ∈ its)
   (hQ : ∀ p t' s', Upto ns x p → S C its s' → Q (.int (p : Int) t') s') : wpAny (model PP w) A (call (.ref 129) [.ref l, .int x t]) Q E s := by
  refine wpAny_call ?_
  refine call_fnL H hB (hB.k H 129 _ rfl) rfl (codeRec_of (hB.k H) (by kernel_rfl)) rfl hA (BindsTo.of_eq rfl) (by kernel_rfl) (by kernel_rfl) (loc := [("rows", some (.ref l)), ("one", some (.int x 0)), ("low", none), ("high", none), ("mid", none)]) (by kernel_rfl) rfl ?_
  intro L s A1 E1 hA1 H env
  repeat' walk1
  refine while_nx (fun n its2 => ∃ lo hi mv, n = hi - lo ∧ lo ≤ hi ∧ hi ≤ ns.length ∧ (∀ i (h : i < ns.length), i < lo → ns[i] ≤ x) ∧ (∀ i (h : i < ns.length), hi ≤ i → x < ns[i]) ∧ its2 = (L, NsI [("rows", some (.ref l)), ("one", some (.int x 0)), ("low", some (.int (lo : Nat) 0)), ("high", some (.int (hi : Nat) 0)), ("mid", mv)]) :: its) ns.length ⟨0, ns.length, none, (Nat.sub_zero _).symm, Nat.zero_le _, Nat.le_refl _, fun i _ h => absurd h (Nat.not_lt_zero _), fun i h1 h2 => absurd h1 (Nat.not_lt.mpr h2), rfl⟩ (by rw [List.length_map] at H; exact H.mono (by walk_at "sub")) ?_
  rintro n l' s1 E' ⟨lo, hi, mv, rfl, b1, b2, b3, b4, rfl⟩ H
  by_cases hlt : lo < hi
  · obtain ⟨m1, m2, hm, e1⟩ := mid_of hlt b2
    have g1 : 0 ≤ ((lo : Int) + (hi : Int)).fdiv 2 := by rw [e1]; exact Int.natCast_nonneg _
    have g2 : ((lo : Int) + (hi : Int)).fdiv 2 < 9223372036854775808 := by rw [e1]; exact Int.lt_trans (Int.ofNat_lt.mpr (Nat.lt_trans hm hz)) (by decide)
    have g3 : (ns.map vi)[(((lo : Int) + (hi : Int)).fdiv 2).toNat]? = some (vi (ns[(lo + hi) / 2])) := by
      rw [e1, Int.toNat_natCast, List.getElem?_map, List.getElem?_eq_getElem hm]; rfl
    generalize hmid : (lo + hi) / 2 = mid at *
    repeat' walk1
    · rw [e1] at H
      refine WTurn.next (m := mid - lo) (l := (L, NsI [("rows", some (.ref l)), ("one", some (.int x 0)), ("low", some (.int (lo : Nat) 0)), ("high", some (.int (mid : Nat) 0)), ("mid", some (.int (mid : Nat) 0))]) :: its) (Nat.sub_lt_sub_right m1 m2) ⟨lo, mid, some (.int (mid : Nat) 0), rfl, m1, Nat.le_of_lt hm, b3, fun i h hi => ?_, rfl⟩ H
      have q1 := sorted_le hs hm h hi
      have q2 : x < ns[mid] := by assumption
      exact Int.lt_of_lt_of_le q2 q1
    · rw [e1] at H
      refine WTurn.next (m := hi - (mid + 1)) (l := (L, NsI [("rows", some (.ref l)), ("one", some (.int x 0)), ("low", some (.int (mid + 1 : Nat) 0)), ("high", some (.int (hi : Nat) 0)), ("mid", some (.int (mid : Nat) 0))]) :: its) (Nat.sub_lt_sub_left hlt (Nat.lt_succ_of_le m1)) ⟨mid + 1, hi, some (.int (mid : Nat) 0), rfl, m2, b2, fun i h hi => ?_, b4, rfl⟩ H
      have q1 := sorted_le hs h hm (Nat.le_of_lt_succ hi)
      have q2 : ¬ x < ns[mid] := by assumption
      exact Int.le_trans q1 (Int.not_lt.mp q2)
    · exact absurd (Int.ofNat_lt.mpr hlt) (by assumption)
  · repeat' walk1
    · exact absurd (Int.ofNat_lt.mp (by assumption)) hlt
    · have hz : lo = hi := Nat.le_antisymm b1 (Nat.not_lt.mp hlt)
      subst hz
      exact hQ lo _ _ ⟨b2, b3, b4⟩ (S.tail (by walk_at "st"))

end Mc

namespace Mc
noncomputable abbrev newRt (w : World) (rt rtd dist ka npts nodes rg : Addr) (hh : Value) : List Item := [(rt, InstI 118 rtd), (rtd, DictI (sk PP w) (rtA dist ka npts nodes rg hh) none), (dist, DictI (sk PP w) [] none), (ka, ListI []), (npts, DictI (sk PP w) [] none), (nodes, DictI (sk PP w) [] none), (rg, DictI (ik PP w) [] none)]
noncomputable abbrev newRtS (w : World) (rt rtd dist ka npts nodes rg : Addr) (hh : Value) : List Item := [(rt, InstI 118 rtd), (rtd, DictI (sk PP w) (rtA dist ka npts nodes rg hh) none), (dist, DictI (sk PP w) [] none), (ka, ListI []), (npts, DictI (sk PP w) [] none), (nodes, DictI (sk PP w) [] none), (rg, DictI (sk PP w) [] none)]
theorem rt_conv {w : World} {C : Cx} {its : List Item} {s : Shared} {rt rtd dist ka npts nodes rg : Addr} {hh : Value} (H : S C (newRtS w rt rtd dist ka npts nodes rg hh ++ its) s) : S C (newRt w rt rtd dist ka npts nodes rg hh ++ its) s :=
  S.conv H (a := rg) (.tail (.tail (.tail (.tail (.tail (.tail .head)))))) fun o h => DictI.empty h
theorem mr_init (w : World) (C : Cx) (hB : Bs PP w (hK w.params) gl C) (A : Around) (its : List Item) (s : Shared) (Q E : Value → Shared → Prop) (ha : Addr) (fdH : FuncData) (mv : Value) (hA : Rm A 3 20) (H : S C its s) (hi : (ha, FnI fdH) ∈ its)
   (hQ : ∀ rt rtd dist ka npts nodes rg s', S C (newRt w rt rtd dist ka npts nodes rg (.ref ha) ++ its) s' → Q (.ref rt) s') : wpAny (model PP w) A (call (.ref 118) [.ref ha, mv]) Q E s := by
  refine wpAny_call ?_
  refine r_make (D := 118) (fI := 94) H hB (by kernel_rfl) (by kernel_rfl) (by kernel_rfl) fun rt rtd s H => ?_
  have hA' := hA.under_make 118 [.ref ha, mv] []
  refine call_cellL (fun L => [(L + 1, CellI (some (er mv)))]) H hB (hB.k H 94 _ rfl) rfl (codeRec_of (hB.k H) (by kernel_rfl)) rfl hA' (binds_K (hB.k H) rfl (T := 87) rfl rfl rfl rfl) rfl (fun _ => by kernel_rfl) (loc := [("self", some (.ref rt)), ("hash_fn", some (.ref ha))]) (by kernel_rfl) (fun _ => rfl) (fun _ => rfl) (fun _ => by kernel_rfl) ?_
  intro L s A1 E1 hA1 H env
  simp only [List.cons_append, List.nil_append] at H
  repeat' walk1
  refine ⟨rfl, hQ rt rtd ?_ ?_ ?_ ?_ ?_ _ (rt_conv ?h)⟩
  case h => exact S.pick (by walk_at "st") (by walk_at "pick") (by walk_at "sub")

end Mc

namespace Mc
structure Cf where
  host : Value
  inst : Value
  nn : Str
  port : Value
  v : Int
  wt : Int
noncomputable abbrev Cf.kvs (c : Cf) : List (Str × Value) := [("hostname", c.host), ("instance", c.inst), ("nodename", vs c.nn), ("port", c.port), ("vnodes", vi c.v), ("weight", vi c.wt)]
noncomputable abbrev cf0 (vn : Int) (name : Str) : Cf := ⟨vs name, .none, name, .none, vn, 1⟩
noncomputable abbrev Nl := List (Str × Addr × Cf)
noncomputable def nlK (nl : Nl) : List (Str × Value) := nl.map fun p => (p.1, .ref p.2.1)
noncomputable def nlIts (w : World) (nl : Nl) : List Item := nl.map fun p => (p.2.1, DictI (sk PP w) p.2.2.kvs none)
noncomputable def nlSet (nl : Nl) (name : Str) (a : Addr) (c : Cf) : Nl := if (nl.map (·.1)).contains name then nl.map (fun p => if p.1 = name then (p.1, a, c) else p) else nl ++ [(name, a, c)]
noncomputable def nlAt (nl : Nl) (name : Str) : Option Cf := (nl.find? fun p => decide (p.1 = name)).map (·.2.2)
noncomputable def curK (cur : Option Cf) : List (Str × Value) := match cur with | none => [] | some c => c.kvs
/-- what a node's row is: an item of a list, a weight, a row -/
inductive Nc
  | int (i : Int)
  | row (a : Addr) (kvs : List (Str × Value))
structure Nd where
  name : Str
  nc : Nc
noncomputable def Nc.val : Nc → Value
  | .int i => vi i
  | .row a _ => .ref a
noncomputable def ndK (nds : List Nd) : List (Str × Value) := nds.map fun e => (e.name, e.nc.val)
/-- a field of a row, taken over -/
noncomputable def Cf.put (c : Cf) (p : Str × Value) : Cf :=
  if p.1 = "hostname" then { c with host := p.2 } else if p.1 = "instance" then { c with inst := p.2 } else if p.1 = "port" then { c with port := p.2 }
  else if p.1 = "nodename" then (match p.2 with | .str x _ => { c with nn := x } | _ => c)
  else if p.1 = "vnodes" then (match p.2 with | .int i _ => { c with v := i } | _ => c)
  else if p.1 = "weight" then (match p.2 with | .int i _ => { c with wt := i } | _ => c) else c
noncomputable def chg (cur : Option Cf) (p : Str × Value) : Bool :=
  if p.1 = "nodename" then (match cur, p.2 with | some c, .str x _ => decide (c.nn ≠ x) | _, _ => true)
  else if p.1 = "vnodes" then (match cur, p.2 with | some c, .int i _ => decide (c.v ≠ i) | _, _ => true)
  else if p.1 = "weight" then (match cur, p.2 with | some c, .int i _ => decide (c.wt ≠ i) | _, _ => true) else false
noncomputable def confOf (vn : Int) (name : Str) : Nc → Cf
  | .int i => { cf0 vn name with wt := i }
  | .row _ kvs => kvs.foldl Cf.put (cf0 vn name)
noncomputable def chgRow (cur : Option Cf) : Nc → Bool
  | .int _ => false
  | .row _ kvs => kvs.any (chg cur)
noncomputable def chgW (cur : Option Cf) (x : Int) : Bool := match cur with | none => true | some c => decide (c.wt ≠ x)
noncomputable def chgOf (vn : Int) (name : Str) (cur : Option Cf) (nc : Nc) : Bool := (cur.isNone || chgRow cur nc) || chgW cur (confOf vn name nc).wt
inductive Confs (vn : Int) (nl : Nl) : List Nd → Nl → Bool → Prop
  | nil : Confs vn nl [] nl false
  | snoc {nds nd nl' b a} : Confs vn nl nds nl' b → Confs vn nl (nds ++ [nd]) (nlSet nl' nd.name a (confOf vn nd.name nd.nc)) (b || chgOf vn nd.name (nlAt nl' nd.name) nd.nc)
noncomputable def RowOk (kvs : List (Str × Value)) : Prop := ∀ p ∈ kvs, (p.1 = "nodename" → ∃ x, p.2 = vs x) ∧ (p.1 = "vnodes" → ∃ i, p.2 = vi i) ∧ (p.1 = "weight" → ∃ i, p.2 = vi i)
noncomputable def Nc.ok (w : World) (rest : List Item) : Nc → Prop
  | .int _ => False
  | .row a kvs => (a, DictI (sk PP w) kvs none) ∈ rest ∧ RowOk kvs ∧ kvs.length ≤ 100
theorem cf_nn (c : Cf) : valueAt c.kvs "nodename" = some (vs c.nn) := by kernel_rfl
theorem cf_port (c : Cf) : valueAt c.kvs "port" = some c.port := by kernel_rfl
theorem cf_v (c : Cf) : valueAt c.kvs "vnodes" = some (vi c.v) := by kernel_rfl
theorem cf_wt (c : Cf) : valueAt c.kvs "weight" = some (vi c.wt) := by kernel_rfl
theorem put_host (c : Cf) (X : Value) : stored c.kvs "hostname" X = (c.put ("hostname", X)).kvs := by kernel_rfl
theorem put_inst (c : Cf) (X : Value) : stored c.kvs "instance" X = (c.put ("instance", X)).kvs := by kernel_rfl
theorem put_port (c : Cf) (X : Value) : stored c.kvs "port" X = (c.put ("port", X)).kvs := by kernel_rfl
theorem put_nn (c : Cf) (x : Str) : stored c.kvs "nodename" (vs x) = (c.put ("nodename", vs x)).kvs := by kernel_rfl
theorem put_v (c : Cf) (i : Int) : stored c.kvs "vnodes" (vi i) = (c.put ("vnodes", vi i)).kvs := by kernel_rfl
theorem put_wt (c : Cf) (i : Int) : stored c.kvs "weight" (vi i) = (c.put ("weight", vi i)).kvs := by kernel_rfl
theorem nlK_keys {nl : Nl} : (nlK nl).map (·.1) = nl.map (·.1) := by unfold nlK; rw [List.map_map]; rfl
theorem nlK_set {nl : Nl} {name : Str} {a : Addr} {c : Cf} : nlK (nlSet nl name a c) = stored (nlK nl) name (.ref a) := by
  unfold nlSet stored
  rw [any_keys, nlK_keys]
  split
  · unfold nlK
    rw [List.map_map, List.map_map]
    refine List.map_congr_left fun p _ => ?_
    simp only [Function.comp]
    split <;> rfl
  · unfold nlK; rw [List.map_append]; rfl
theorem nlSet_keys {nl : Nl} {name : Str} {a : Addr} {c : Cf} : (nlSet nl name a c).map (·.1) = if (nl.map (·.1)).contains name then nl.map (·.1) else nl.map (·.1) ++ [name] := by
  have := congrArg (List.map (·.1)) (nlK_set (nl := nl) (name := name) (a := a) (c := c))
  rw [nlK_keys, stored_keys, nlK_keys] at this
  exact this
theorem nlSet_nodup {nl : Nl} {name : Str} {a : Addr} {c : Cf} (nd : (nl.map (·.1)).Nodup) : ((nlSet nl name a c).map (·.1)).Nodup := by
  have := nodup_stored (us := nlK nl) (k := name) (v := .ref a) (by rw [nlK_keys]; exact nd)
  rw [← nlK_set, nlK_keys] at this
  exact this
theorem nlSet_len (nl : Nl) (name : Str) (a : Addr) (c : Cf) : (nlSet nl name a c).length ≤ nl.length + 1 := by unfold nlSet; split <;> simp
theorem nl_split {nl : Nl} {name : Str} (h : name ∈ nl.map (·.1)) (nd : (nl.map (·.1)).Nodup) : ∃ l1 l2 a c, nl = l1 ++ (name, a, c) :: l2 ∧ name ∉ l1.map (·.1) ∧ name ∉ l2.map (·.1) := by
  obtain ⟨⟨n', a, c⟩, h1, h2⟩ := List.mem_map.mp h
  obtain ⟨l1, l2, h3⟩ := List.append_of_mem h1
  cases h2
  subst h3
  rw [List.map_append, List.map_cons, List.nodup_append, List.nodup_cons] at nd
  exact ⟨l1, l2, a, c, rfl, fun q => nd.2.2 _ q _ (.head _) rfl, nd.2.1.1⟩
theorem nlAt_none {nl : Nl} {name : Str} (h : name ∉ nl.map (·.1)) : nlAt nl name = none := by
  unfold nlAt
  rw [List.find?_eq_none.mpr fun p hp e => h (by rw [← of_decide_eq_true e]; exact List.mem_map_of_mem (f := (·.1)) hp)]
  rfl
theorem nlAt_mid {l1 l2 : Nl} {name : Str} {a : Addr} {c : Cf} (h : name ∉ l1.map (·.1)) : nlAt (l1 ++ (name, a, c) :: l2) name = some c := by
  unfold nlAt
  rw [List.find?_append, List.find?_eq_none.mpr fun p hp e => h (by rw [← of_decide_eq_true e]; exact List.mem_map_of_mem (f := (·.1)) hp)]
  simp
theorem nlK_mid {l1 l2 : Nl} {name : Str} {a : Addr} {c : Cf} (h : name ∉ l1.map (·.1)) : valueAt (nlK (l1 ++ (name, a, c) :: l2)) name = some (.ref a) := by
  unfold valueAt nlK
  rw [List.map_append, List.find?_append, List.find?_eq_none.mpr fun p hp e => ?_]
  · simp
  · obtain ⟨q, hq, rfl⟩ := List.mem_map.mp hp
    exact h (by rw [← of_decide_eq_true e]; exact List.mem_map_of_mem (f := (·.1)) hq)
theorem nlSet_mid {l1 l2 : Nl} {name : Str} {a a' : Addr} {c c' : Cf} (h1 : name ∉ l1.map (·.1)) (h2 : name ∉ l2.map (·.1)) : nlSet (l1 ++ (name, a, c) :: l2) name a' c' = l1 ++ (name, a', c') :: l2 := by
  unfold nlSet
  rw [if_pos (List.contains_iff_mem.mpr (by simp))]
  have e : ∀ l : Nl, name ∉ l.map (·.1) → l.map (fun p => if p.1 = name then (p.1, a', c') else p) = l := fun l hl => by
    conv => rhs; rw [← List.map_id l]
    refine List.map_congr_left fun p hp => ?_
    rw [if_neg fun q => hl (by rw [← q]; exact List.mem_map_of_mem (f := (·.1)) hp)]; rfl
  rw [List.map_append, List.map_cons, e l1 h1, e l2 h2, if_pos rfl]
theorem nlSet_new {nl : Nl} {name : Str} {a : Addr} {c : Cf} (h : name ∉ nl.map (·.1)) : nlSet nl name a c = nl ++ [(name, a, c)] := by
  unfold nlSet
  rw [if_neg fun q => h (List.contains_iff_mem.mp q)]
theorem nlIts_app {w : World} (l1 l2 : Nl) : nlIts w (l1 ++ l2) = nlIts w l1 ++ nlIts w l2 := by unfold nlIts; rw [List.map_append]
/-- a new row takes its place -/
theorem S.nl {w : World} {C : Cx} {s : Shared} {nl : Nl} {name : Str} {a : Addr} {c : Cf} {A R : List Item} (nd : (nl.map (·.1)).Nodup) (H : S C (A ++ ((a, DictI (sk PP w) c.kvs none) :: (nlIts w nl ++ R))) s) : S C (A ++ (nlIts w (nlSet nl name a c) ++ R)) s := by
  by_cases h : name ∈ nl.map (·.1)
  · obtain ⟨l1, l2, a0, c0, rfl, h1, h2⟩ := nl_split h nd
    rw [nlSet_mid h1 h2]
    rw [nlIts_app] at H ⊢
    refine S.mono (its := A ++ (nlIts w l1 ++ (a, DictI (sk PP w) c.kvs none) :: (nlIts w ((name, a0, c0) :: l2) ++ R))) (H.perm (List.Perm.append_left A ?_)) ?_
    · rw [List.append_assoc]
      exact List.perm_middle.symm
    · refine List.Sublist.append_left ?_ A
      rw [List.append_assoc]
      exact List.Sublist.append_left (List.Sublist.cons_cons _ (List.sublist_cons_self _ _)) _
  · rw [nlSet_new h, nlIts_app]
    refine H.perm (List.Perm.append_left A ?_)
    rw [List.append_assoc]
    exact List.perm_middle.symm
theorem Confs.nodup {vn : Int} {nl : Nl} (nd : (nl.map (·.1)).Nodup) {nds nl' b} (h : Confs vn nl nds nl' b) : (nl'.map (·.1)).Nodup := by
  induction h with
  | nil => exact nd
  | snoc _ ih => exact nlSet_nodup ih
theorem Confs.len {vn : Int} {nl : Nl} {nds nl' b} (h : Confs vn nl nds nl' b) : nl'.length ≤ nl.length + nds.length := by
  induction h with
  | nil => exact Nat.le_refl _
  | @snoc nds nd nl' b a h h1 =>
    rw [List.length_append, List.length_singleton]
    exact Nat.le_trans (nlSet_len nl' nd.name a (confOf vn nd.name nd.nc)) (Nat.succ_le_succ h1)

end Mc

namespace Mc
noncomputable abbrev fixA (w : World) (rt rtd dist ka npts nodes rg ha : Addr) (ks : List Value) (m : MS) : List Item :=
  [(rt, InstI 118 rtd), (rtd, DictI (sk PP w) (rtA dist ka npts nodes rg (.ref ha)) none), (dist, DictI (sk PP w) m.dl none), (ka, ListI ks), (npts, DictI (sk PP w) (plK m.pl) none), (rg, DictI (ik PP w) m.rl none)]
structure ItOk (w : World) (C : Cx) (nv : Addr) (els : List El) (nIts nIts' : List Item) : Prop where
  go : ∀ (A : Around) its s (Q E : Value → Shared → Prop), S C (nIts ++ its) s →
    (∀ it s' P, it ∉ C.tb → NxT PP w C it els.length (fun i us => ∃ (h : i < els.length) (t : Tok), us = [.str els[i].name t, .ref els[i].cn]) P (fun its => ∀ p ∈ nIts', p ∈ its) → S C ((it, P 0) :: (nIts' ++ its)) s' → Q (.ref it) s') →
    wpAny (model PP w) A (pyIter (.ref nv)) Q E s
  back : ∀ its s, S C (nIts' ++ its) s → S C (nIts ++ its) s
theorem r_get2_cnt {w : World} {C : Cx} {A : Around} {E : Value → Shared → Prop} {its : List Item} {s : Shared} {Q : Value → Shared → Prop} {a : Addr} {kvs : List (Str × Value)} {ep : Option Nat} {x : Str} {key : Value} {k : Nat} {t0 : Tok} (H : S C its s) (hm : (a, DictI (sk PP w) kvs ep) ∈ its) (hk : (sk PP w).is x key = true) (ha : (a == sysModules) = false)
    (hv : valueAt kvs x = if k = 0 then none else some (vi k)) (h : ∀ t s', S C its s' → Q (.int (k : Int) t) s') : wpAny (model PP w) A (call (.builtin "dict.get") [.ref a, key, .int 0 t0]) Q E s := by
  by_cases h0 : k = 0
  · subst h0
    rw [if_pos rfl] at hv
    exact r_get2_n H hm hk ha hv fun s' H' => h _ s' H'
  · rw [if_neg h0] at hv
    exact r_get2_s H hm hk ha hv fun s' H' t => h t s' H'
inductive CrI (w : World) (L rt nv rtd dist ka npts nodes rg ha : Addr) (ks : List Value) (nIts' rest : List Item) (h : Str → Int) (m : MS) (els : List El) (i : Nat) (its' : List Item) : Prop where
  | mk (v1 v2 v3 v4 v5 v6 : Option Value) (m' : MS) (h1 : Lays h m (els.take i) m') (h2 : its' = (L, NsI [("self", some (.ref rt)), ("nodes", some (.ref nv)), ("node_name", v1), ("node_conf", v2), ("old_points", v3), ("point", v4), ("new_points", v5), ("w", v6)]) :: (fixA w rt rtd dist ka npts nodes rg ha ks m' ++ (nIts' ++ (ptsIts m'.pl ++ rest)))) : CrI w L rt nv rtd dist ka npts nodes rg ha ks nIts' rest h m els i its'
theorem create_ring (w : World) (C : Cx) (hB : Bs PP w (hK w.params) gl C) (rt rtd dist ka npts nodes rg ha nv : Addr) (ks : List Value) (m : MS) (hIts : List Item) (h : Str → Int) (dom : Str → Prop) (hh : HOk w C ha hIts h dom)
   (els : List El) (nIts nIts' : List Item) (hit : ItOk w C nv els nIts nIts') (g : Good m) (hdom : ∀ e ∈ els, ∀ k, k < e.cnt → dom (keyN e.name k)) (s1 : (dist == sysModules) = false) (s2 : (npts == sysModules) = false) (s3 : (rg == sysModules) = false)
   (hnl : ∀ e ∈ els, e.name.length ≤ 100) (z1 : m.dl.length + els.length ≤ 1000) (z2 : m.pl.length + els.length ≤ 1000) (z3 : m.rl.length + (els.map El.cnt).sum < 64)
   (A : Around) (rest : List Item) (s : Shared) (Q E : Value → Shared → Prop) (hA : Rm A 6 60) (hr : ∀ p ∈ hIts, p ∈ rest) (hc : ∀ e ∈ els, ConfOk w rest e)
   (H : S C (fixA w rt rtd dist ka npts nodes rg ha ks m ++ (nIts ++ (ptsIts m.pl ++ rest))) s)
   (hQ : ∀ ka' (ns : List Int) m' s', Lays h m els m' → ns.Perm (m'.rl.map (·.1)) → ns.Pairwise (· ≤ ·) → S C (fixA w rt rtd dist ka' npts nodes rg ha (ns.map vi) m' ++ (nIts ++ (ptsIts m'.pl ++ rest))) s' → Q .none s') :
   wpAny (model PP w) A (call (.ref 108) [.ref rt, .ref nv]) Q E s := by
  refine wpAny_call ?_
  refine call_fnL H hB (hB.k H 108 _ rfl) rfl (codeRec_of (hB.k H) (by kernel_rfl)) rfl hA (BindsTo.of_eq rfl) (by kernel_rfl) (by kernel_rfl) (loc := [("self", some (.ref rt)), ("nodes", some (.ref nv)), ("node_name", none), ("node_conf", none), ("old_points", none), ("point", none), ("new_points", none), ("w", none)]) (by kernel_rfl) rfl ?_
  intro L s A1 E1 hA1 H env
  have hcnt : ∀ e ∈ els, 1 ≤ e.cnt ∧ e.cnt ≤ 1000000 := fun e he => by
    obtain ⟨_, _, _, _, a1, a3, a2, a4⟩ := hc e he
    have : 1 * 1 ≤ e.v * e.wt := Int.mul_le_mul a1 a2 (by decide) (by omega)
    have : e.v * e.wt ≤ 1000 * 1000 := Int.mul_le_mul a3 a4 (by omega) (by decide)
    unfold El.cnt
    omega
  iterate 3 walk1
  have H := H.perm (List.perm_append_comm_assoc ((L, NsI _) :: fixA w rt rtd dist ka npts nodes rg ha ks m) nIts (ptsIts m.pl ++ rest))
  refine hit.go _ _ _ _ _ H fun it s' P ht N H => ?_
  have H := H.perm (List.Perm.cons _ (List.perm_append_comm_assoc nIts' ((L, NsI _) :: fixA w rt rtd dist ka npts nodes rg ha ks m) (ptsIts m.pl ++ rest)))
  refine for_nxT1 N hA1.hd (fun i us ⟨hi, t, e⟩ => by rw [e]; rfl) rfl (fun i its' => CrI w L rt nv rtd dist ka npts nodes rg ha ks nIts' rest h m els i its') ?_ ⟨none, none, none, none, none, none, m, .nil, rfl⟩ H ?_ ?_
  · rintro i l ⟨v1, v2, v3, v4, v5, v6, m', _, rfl⟩ p hp
    exact .tail _ (List.mem_append_right _ (List.mem_append_left _ hp))
  · rintro i us l s E' hi ⟨hi', t, rfl⟩ ⟨v1, v2, v3, v4, v5, v6, m', hl, rfl⟩ H QI hQI
    have g' := hl.good g (fun e he => hcnt e (List.mem_of_mem_take he))
    have hx1 := hl
    have hmem : els[i] ∈ els := List.getElem_mem _
    obtain ⟨kvs, cm, cv, cw, b1, b2, b3, b4⟩ := hc els[i] hmem
    have hdm := hdom els[i] hmem
    have hnl1 := hnl els[i] hmem
    have bl1 := hl.rl_len
    have bl2 := sum_take (els.map El.cnt) i
    rw [List.map_take] at bl1
    have bl3 := hl.dl_len
    have bl4 := hl.pl_len
    rw [List.length_take] at bl3 bl4
    have cA : (plK m'.pl).length ≤ 1000 := by rw [plK_len]; omega
    have cD : m'.pl.length ≤ 1000 := by omega
    have cB : m'.dl.length ≤ 1000 := by omega
    have cC : m'.rl.length ≤ 64 := by omega
    clear bl1 bl3 bl4
    have b5 : els[i].v * els[i].wt ≤ 1000 * 1000 := Int.mul_le_mul b2 b4 (by omega) (by decide)
    have b6 : 1 * 1 ≤ els[i].v * els[i].wt := Int.mul_le_mul b1 b3 (by decide) (by omega)
    generalize hname : els[i].name = name at *
    generalize hcnt' : els[i].cnt = cnt at *
    have hstep : els.take (i + 1) = els.take i ++ [els[i]] := by rw [List.take_add_one, List.getElem?_eq_getElem hi]; rfl
    have hnm : name ∉ (without m'.dl name).map (·.1) := fun q => (without_keys.mp q).2 rfl
    have hov : ∃ (ov : Value) (oldIts : List Item), (name ∉ m'.pl.map (·.1) ∧ ov = .none ∧ oldIts = []) ∨ (∃ pl1 pl2 l ps, m'.pl = pl1 ++ (name, l, ps) :: pl2 ∧ ov = .ref l ∧ oldIts = [(l, ListI (ps.map vi))]) := by
      by_cases hn : name ∈ m'.pl.map (·.1)
      · obtain ⟨⟨n', l, ps⟩, h1, h2⟩ := List.mem_map.mp hn
        obtain ⟨pl1, pl2, h3⟩ := List.append_of_mem h1
        cases h2
        exact ⟨_, _, .inr ⟨_, _, _, _, h3, rfl, rfl⟩⟩
      · exact ⟨_, _, .inl ⟨hn, rfl, rfl⟩⟩
    obtain ⟨ov, oldIts, hov⟩ := hov
    iterate 20 walk1
    refine cut1 (fun v s' => er v = ov ∧ S C ((it, P (i + 1)) :: (L, NsI [("self", some (.ref rt)), ("nodes", some (.ref nv)), ("node_name", some (.str name 0)), ("node_conf", some (.ref els[i].cn)), ("old_points", v3), ("point", v4), ("new_points", v5), ("w", v6)]) ::
      ([(rt, InstI 118 rtd), (rtd, DictI (sk PP w) (rtA dist ka npts nodes rg (.ref ha)) none), (dist, DictI (sk PP w) m'.dl none), (ka, ListI ks), (npts, DictI (sk PP w) (plK (plW m'.pl name)) none), (rg, DictI (ik PP w) m'.rl none)] ++ (oldIts ++ (nIts' ++ (ptsIts (plW m'.pl name) ++ rest))))) s') ?_ ?_
    · intro QC hQC
      rcases hov with ⟨hn, rfl, rfl⟩ | ⟨pl1, pl2, l, ps, hpl, rfl, rfl⟩
      · have hv := valueAt_none (l := plK m'.pl) (k := name) (by rw [plK_keys]; exact hn)
        rw [plW_none hn] at hQC
        repeat' walk1
        exact hQC _ _ ⟨rfl, by assumption⟩
      · have hv : valueAt (plK m'.pl) name = some (.ref l) := by rw [hpl]; exact plK_at (by rw [← hpl]; exact g'.nd)
        repeat' walk1
        refine hQC _ _ ⟨rfl, ?_⟩
        rw [plK_without] at H
        have e1 : plW m'.pl name = pl1 ++ pl2 := by rw [hpl]; exact plW_mid (by rw [← hpl]; exact g'.nd)
        rw [e1] at H ⊢
        rw [hpl] at H
        exact H.perm (pts_perm (A := [_, _, _, _, _, _, _, _]))
    · intro v s' ⟨he, H⟩
      iterate 2 walk1
      refine cut1 (fun r s' => r = .next ∧ ∃ pv, S C ((it, P (i + 1)) :: (L, NsI [("self", some (.ref rt)), ("nodes", some (.ref nv)), ("node_name", some (.str name 0)), ("node_conf", some (.ref els[i].cn)), ("old_points", some ov), ("point", pv), ("new_points", v5), ("w", v6)]) ::
        ([(rt, InstI 118 rtd), (rtd, DictI (sk PP w) (rtA dist ka npts nodes rg (.ref ha)) none), (dist, DictI (sk PP w) (without m'.dl name) none), (ka, ListI ks), (npts, DictI (sk PP w) (plK (plW m'.pl name)) none), (rg, DictI (ik PP w) ((olds m'.pl name).foldl (dropP name) m'.rl) none)] ++ (oldIts ++ (nIts' ++ (ptsIts (plW m'.pl name) ++ rest))))) s') ?_ ?_
      · intro QC hQC
        rcases hov with ⟨hn, rfl, rfl⟩ | ⟨pl1, pl2, l, ps, hpl, rfl, rfl⟩
        · rw [without_none fun q => hn (g'.sub _ q), olds_none hn] at hQC
          repeat' walk1
          exact hQC _ _ ⟨rfl, v4, by assumption⟩
        · have e1 : plW m'.pl name = pl1 ++ pl2 := by rw [hpl]; exact plW_mid (by rw [← hpl]; exact g'.nd)
          have e2 : olds m'.pl name = ps := by rw [hpl]; exact olds_mid (by rw [← hpl]; exact g'.nd)
          have e3 : ps ≠ [] := g'.ne (name, l, ps) (by rw [hpl]; simp)
          obtain ⟨cc, hcc⟩ := g'.has name (by rw [hpl]; simp)
          rw [e2] at hQC
          have hst := g'.st
          have b7 : ps.length ≤ 1000000 := g'.sh (name, l, ps) (by rw [hpl]; simp)
          have he0 : (ps.map vi).isEmpty = false := by cases ps with | nil => exact absurd rfl e3 | cons _ _ => rfl
          have hstep : ∀ k (hk : k < ps.length), (ps.take (k + 1)).foldl (dropP name) m'.rl = dropP name ((ps.take k).foldl (dropP name) m'.rl) ps[k] := fun k hk => by
            rw [List.take_add_one, List.getElem?_eq_getElem hk, List.foldl_append]; rfl
          repeat' walk1
          · exact absurd (Eq.symm (by assumption : (ps.map vi).isEmpty = true)) (by rw [he0]; decide)
          rename_i it2 hit2
          obtain ⟨Z, hZ⟩ : ∃ Z : List Item, Z = (it, P (i + 1)) :: (rt, InstI 118 rtd) :: (rtd, DictI (sk PP w) (rtA dist ka npts nodes rg (.ref ha)) none) :: (dist, DictI (sk PP w) m'.dl none) :: (ka, ListI ks) :: (npts, DictI (sk PP w) (plK (plW m'.pl name)) none) :: (l, ListI (ps.map vi)) :: (nIts' ++ (ptsIts (plW m'.pl name) ++ rest)) := ⟨_, rfl⟩
          have hZ1 : (rt, InstI 118 rtd) ∈ Z := by rw [hZ]; walk_at "mb"
          have hZ2 : (rtd, DictI (sk PP w) (rtA dist ka npts nodes rg (.ref ha)) none) ∈ Z := by rw [hZ]; walk_at "mb"
          have hZ3 : (l, ListI (ps.map vi)) ∈ Z := by rw [hZ]; walk_at "mb"
          have H2 : S C ((it2, ListIt l 0) :: (L, NsI [("self", some (.ref rt)), ("nodes", some (.ref nv)), ("node_name", some (.str name 0)), ("node_conf", some (.ref els[i].cn)), ("old_points", some (.ref l)), ("point", v4), ("new_points", v5), ("w", v6)]) :: (rg, DictI (ik PP w) m'.rl none) :: Z) s := by
            rw [hZ]; exact S.pick (ps := [(it2, _), (L, _), (rg, _)]) H (by walk_at "pick") (by walk_at "sub")
          clear H
          refine for_nx1 (nx_list l (ps.map vi) hit2) hA1.hd (fun k its' => ∃ pv, its' = (L, NsI [("self", some (.ref rt)), ("nodes", some (.ref nv)), ("node_name", some (.str name 0)), ("node_conf", some (.ref els[i].cn)), ("old_points", some (.ref l)), ("point", pv), ("new_points", v5), ("w", v6)]) :: (rg, DictI (ik PP w) ((ps.take k).foldl (dropP name) m'.rl) none) :: Z) ?_ ⟨v4, rfl⟩ H2 ?_ ?_
          · rintro i l' ⟨pv, rfl⟩
            walk_at "mb"
          · rintro k v l' s E' hk ⟨X', hx, he⟩ ⟨pv, rfl⟩ H QI hQI
            rw [List.length_map] at hk
            rw [List.getElem?_map, List.getElem?_eq_getElem hk] at hx
            cases hx
            obtain ⟨t, rfl⟩ := int_of_er he
            have hlen := dropPs_len name (ps.take k) m'.rl
            have hs := Strs.dropPs (name := name) (ps := ps.take k) hst
            rw [hstep k hk] at hQI
            generalize (ps.take k).foldl (dropP name) m'.rl = rr at *
            iterate 13 walk1
            refine r_get1 (by walk_at "st") (by walk_at "key") s3 (by walk_at "mb") fun s H => Ret.cases fun u hu => ?_
            iterate 1 walk1
            refine eq_sc hu (hs.opt _) ?_
            have hff : ¬ false = true := Bool.false_ne_true
            by_cases hg : valueAt rr ps[k] = some (vs name)
            · rw [decide_eq_true hg]
              rw [show dropP name rr ps[k] = without rr ps[k] from if_pos hg] at hQI
              repeat' walk1
              exact hQI _ _ (TurnEnd.next ⟨_, rfl⟩ (S.tkTo H rfl rfl rfl))
            · rw [decide_eq_false hg]
              rw [show dropP name rr ps[k] = rr from if_neg hg] at hQI
              repeat' walk1
              exact hQI _ _ (TurnEnd.next ⟨_, rfl⟩ (S.tkTo H rfl rfl rfl))
          · rintro l' s E' ⟨pv, rfl⟩ H
            rw [List.take_of_length_le (by simp), hZ] at H
            repeat' walk1
            exact hQC _ _ ⟨rfl, pv, S.pick (ps := [(it, _), (L, _), (rt, _), (rtd, _), (dist, _), (ka, _), (npts, _), (rg, _)]) H (by walk_at "pick") (by walk_at "sub")⟩
      · rintro r s' ⟨rfl, pv, H⟩
        have H := S.mono H (List.Sublist.cons_cons _ (List.Sublist.cons_cons _ (List.Sublist.append_left (List.sublist_append_right oldIts _) _)))
        have hn' : name ∉ (plW m'.pl name).map (·.1) := plW_not
        have hst := Strs.dropPs (name := name) (ps := olds m'.pl name) g'.st
        have bd := without_len m'.dl name
        have bl := dropPs_len name (olds m'.pl name) m'.rl
        have bp : (plK (plW m'.pl name)).length ≤ m'.pl.length := by rw [plK_len]; exact List.length_filter_le _ _
        have hcs : cnt ≤ (els.map El.cnt).sum := by
          have := bl2
          rw [← hcnt']
          exact le_sum hi
        generalize hD0 : without m'.dl name = D0 at *
        generalize hP0 : plW m'.pl name = P0 at *
        generalize hR0 : (olds m'.pl name).foldl (dropP name) m'.rl = R0 at *
        clear hov he
        repeat' walk1
        rename_i nlst _ _ _ rr it2 hit2
        have ecnt : (els[i].v * els[i].wt - 0).toNat = cnt := hcnt'
        rw [ecnt] at H
        have hls := Strs.layR (h := h) (name := name) hst
        have hll := layR_len h name R0
        obtain ⟨Z, hZ⟩ : ∃ Z : List Item, Z = (it, P (i + 1)) :: (rt, InstI 118 rtd) :: (rtd, DictI (sk PP w) (rtA dist ka npts nodes rg (.ref ha)) none) :: (ka, ListI ks) :: (npts, DictI (sk PP w) (plK P0) none) :: (nIts' ++ (ptsIts P0 ++ rest)) := ⟨_, rfl⟩
        have hZ1 : (rt, InstI 118 rtd) ∈ Z := by rw [hZ]; walk_at "mb"
        have hZ2 : (rtd, DictI (sk PP w) (rtA dist ka npts nodes rg (.ref ha)) none) ∈ Z := by rw [hZ]; walk_at "mb"
        have hZr : ∀ p ∈ hIts, p ∈ Z := fun p hp => by rw [hZ]; exact .tail _ (.tail _ (.tail _ (.tail _ (.tail _ (List.mem_append_right _ (List.mem_append_right _ (hr p hp)))))))
        have H2 : S C ((it2, RangeIt 0 cnt 0) :: (nlst, ListI []) :: (L, NsI [("self", some (.ref rt)), ("nodes", some (.ref nv)), ("node_name", some (.str name 0)), ("node_conf", some (.ref els[i].cn)), ("old_points", some ov), ("point", pv), ("new_points", some (.ref nlst)), ("w", v6)]) :: (dist, DictI (sk PP w) D0 none) :: (rg, DictI (ik PP w) R0 none) :: Z) s := by
          rw [hZ]; exact S.pick (ps := [(it2, _), (nlst, _), (L, _), (dist, _), (rg, _)]) H (by walk_at "pick") (by walk_at "sub")
        clear H
        refine for_nx1 (nx_range 0 cnt hit2) hA1.hd (fun k its' => ∃ u1 u2, its' = (nlst, ListI ((List.range k).map fun k => vi (h (keyN name k)))) :: (L, NsI [("self", some (.ref rt)), ("nodes", some (.ref nv)), ("node_name", some (.str name 0)), ("node_conf", some (.ref els[i].cn)), ("old_points", some ov), ("point", u1), ("new_points", some (.ref nlst)), ("w", u2)]) :: (dist, DictI (sk PP w) (distK D0 name k) none) :: (rg, DictI (ik PP w) (layR h name k R0) none) :: Z) ?_ ⟨pv, v6, rfl⟩ H2 ?_ ?_
        · exact fun _ _ _ => trivial
        · rintro k v l' s E' hk ⟨tk, rfl⟩ ⟨u1, u2, rfl⟩ H QI hQI
          rw [Int.zero_add]
          have hdk := distK_at (dl := D0) (name := name) (k := k) hnm
          rw [layR_step, ← distK_step hnm, List.range_succ, List.map_append] at hQI
          have hdl := distK_len D0 name k
          have hd1 := len_dash
          have hd2 := len_empty
          have hd3 := len_digits (k := k) (by omega)
          have hll := hll k
          iterate 15 walk1
          refine r_get2_cnt (by walk_at "st") (by walk_at "mb") (by walk_at "key") s1 hdk fun tk2 s H => ?_
          repeat' walk1
          refine hashi_ok w C hB rt rtd dist ka npts nodes rg ha hIts h dom hh _ _ _ _ _ (keyN name k) _ (hdm k hk) (hA1.le (by decide) (by decide)) (by walk_at "st") ?_ (by walk_at "mb") (by walk_at "mb") ?_
          · exact fun p hp => by repeat (first | exact hZr p hp | refine List.Mem.tail _ ?_)
          intro _ s H
          repeat' walk1
          exact hQI _ _ (TurnEnd.next ⟨_, _, rfl⟩ (S.tkTo H rfl rfl rfl))
        · rintro l' s E' ⟨u1, u2, rfl⟩ H
          rw [hZ] at H
          have H : S C ([(nlst, ListI ((List.range cnt).map fun k => vi (h (keyN name k)))), (it, P (i + 1)), (L, NsI [("self", some (.ref rt)), ("nodes", some (.ref nv)), ("node_name", some (.str name 0)), ("node_conf", some (.ref els[i].cn)), ("old_points", some ov), ("point", u1), ("new_points", some (.ref nlst)), ("w", u2)]), (rt, InstI 118 rtd), (rtd, DictI (sk PP w) (rtA dist ka npts nodes rg (.ref ha)) none), (dist, DictI (sk PP w) (distK D0 name cnt) none), (ka, ListI ks), (npts, DictI (sk PP w) (plK P0) none), (rg, DictI (ik PP w) (layR h name cnt R0) none)] ++ (nIts' ++ (ptsIts P0 ++ rest))) s :=
            S.pick (ps := [(nlst, _), (it, _), (L, _), (rt, _), (rtd, _), (dist, _), (ka, _), (npts, _), (rg, _)]) H (by walk_at "pick") (by walk_at "sub")
          repeat' walk1
          have HF := H
          rw [plK_snoc (ps := (List.range cnt).map fun k => h (keyN name k)) hn'] at HF
          have HF := HF.perm (turn_perm (x := (nlst, _)) (A := [_, _, _, _, _, _, _, _]) (N := nIts') (Q := ptsIts P0) (R := rest))
          refine hQI _ _ (TurnEnd.next (l := (L, NsI [("self", some (.ref rt)), ("nodes", some (.ref nv)), ("node_name", some (.str name 0)), ("node_conf", some (.ref els[i].cn)), ("old_points", some ov), ("point", u1), ("new_points", some (.ref nlst)), ("w", u2)]) :: (fixA w rt rtd dist ka npts nodes rg ha ks (layF h name cnt nlst m') ++ (nIts' ++ (ptsIts (layF h name cnt nlst m').pl ++ rest)))) ⟨some (.str name 0), some (.ref els[i].cn), some ov, u1, some (.ref nlst), u2, _, ?_, rfl⟩ ?_)
          · rw [hstep]
            have := hl.snoc (e := els[i]) (a := nlst)
            rw [hname, hcnt'] at this
            exact this
          · have hcc := (hcnt els[i] hmem).1
            have e4 : distK D0 name cnt = D0 ++ [(name, vi cnt)] := by unfold distK; rw [if_neg (by omega)]
            show S C (_ :: _ :: (fixA w rt rtd dist ka npts nodes rg ha ks ⟨without m'.dl name ++ [(name, vi cnt)], plW m'.pl name ++ [(name, nlst, (List.range cnt).map fun k => h (keyN name k))], layR h name cnt ((olds m'.pl name).foldl (dropP name) m'.rl)⟩ ++ (nIts' ++ (ptsIts (plW m'.pl name ++ [(name, nlst, (List.range cnt).map fun k => h (keyN name k))]) ++ rest)))) _
            have e5 : ptsIts (P0 ++ [(name, nlst, (List.range cnt).map fun k => h (keyN name k))]) = ptsIts P0 ++ [(nlst, ListI ((List.range cnt).map fun k => vi (h (keyN name k))))] := by rw [ptsIts_snoc, List.map_map]; rfl
            rw [hD0, hP0, hR0, ← e4, e5]
            exact HF
  · rintro l s E' ⟨v1, v2, v3, v4, v5, v6, m', hl, rfl⟩ H
    rw [List.take_of_length_le (by simp)] at hl
    have bl1 := hl.rl_len
    repeat' walk1
    rename_i B ns hp hs
    have H2 : S C (fixA w rt rtd dist B npts nodes rg ha (ns.map vi) m' ++ (nIts' ++ (ptsIts m'.pl ++ rest))) s := S.pick H (by walk_at "pick") (by walk_at "sub")
    have H3 := hit.back _ _ (H2.perm (List.perm_append_comm_assoc _ _ _))
    exact hQ B ns m' _ hl hp hs (H3.perm (List.perm_append_comm_assoc _ _ _))

end Mc

namespace Mc
noncomputable abbrev hrA (rt : Addr) (vn : Int) (wf : Value) : List (Str × Value) := [("runtime", .ref rt), ("_default_vnodes", vi vn), ("_weight_fn", wf)]
/-- the items that _configure_nodes looks at -/
noncomputable abbrev fixC (w : World) (hr hrd rt rtd dist ka npts nodes rg ha : Addr) (vn : Int) (nl : Nl) (tl : List Item) : List Item :=
  (hr, InstI 392 hrd) :: (hrd, DictI (sk PP w) (hrA rt vn .none) none) :: (rt, InstI 118 rtd) :: (rtd, DictI (sk PP w) (rtA dist ka npts nodes rg (.ref ha)) none) :: (nodes, DictI (sk PP w) (nlK nl) none) :: tl
noncomputable abbrev frC (hr nd : Addr) (b no cf cu nn nc k v : Option Value) : List (Str × Option Value) := [("self", some (.ref hr)), ("nodes", some (.ref nd)), ("conf_changed", b), ("node", no), ("conf", cf), ("current_conf", cu), ("nodename", nn), ("node_conf", nc), ("k", k), ("v", v)]
theorem ndK_at {nds : List Nd} (hnd : (nds.map (·.name)).Nodup) {i : Nat} (hi : i < nds.length) : valueAt (ndK nds) nds[i].name = some nds[i].nc.val := by
  refine valueAt_mem (us := ndK nds) ?_ ?_
  · unfold ndK; rw [List.map_map]; exact hnd
  · unfold ndK; exact List.mem_map.mpr ⟨nds[i], List.getElem_mem hi, rfl⟩
theorem bne_ne {α : Type} [DecidableEq α] [BEq α] [LawfulBEq α] (a b : α) : (a != b) = decide (a ≠ b) := by
  by_cases h : a = b
  · subst h; simp
  · rw [decide_eq_true h]; simpa using h
noncomputable def six : List Str := ["hostname", "instance", "nodename", "port", "vnodes", "weight"]
noncomputable def three : List Str := ["nodename", "vnodes", "weight"]
theorem cf_keys (c : Cf) : c.kvs.map (·.1) = six := rfl
theorem cf_some (c : Cf) {k : Str} (h : k ∈ six) : ∃ W, valueAt c.kvs k = some W := by
  have : (valueAt c.kvs k).isSome = true := valueAt_isSome.mpr (by rw [cf_keys]; exact h)
  exact Option.isSome_iff_exists.mp this
theorem cf_none' (c : Cf) {k : Str} (h : k ∉ six) : valueAt c.kvs k = none := valueAt_none (by rw [cf_keys]; exact h)
theorem put_out (c : Cf) {k : Str} {X : Value} (h : k ∉ six) : c.put (k, X) = c := by
  unfold six at h
  simp only [List.mem_cons, List.not_mem_nil, or_false, not_or] at h
  unfold Cf.put; rw [if_neg h.1, if_neg h.2.1, if_neg h.2.2.2.1, if_neg h.2.2.1, if_neg h.2.2.2.2.1, if_neg h.2.2.2.2.2]
theorem chg_not3 (cur : Option Cf) {k : Str} {X : Value} (h : k ∉ three) : chg cur (k, X) = false := by
  unfold three at h
  simp only [List.mem_cons, List.not_mem_nil, or_false, not_or] at h
  unfold chg; rw [if_neg h.1, if_neg h.2.1, if_neg h.2.2]
theorem chg_out (cur : Option Cf) {k : Str} {X : Value} (h : k ∉ six) : chg cur (k, X) = false := chg_not3 cur fun q => h (by
  rcases List.mem_cons.mp q with rfl | q
  · decide +kernel
  rcases List.mem_cons.mp q with rfl | q
  · decide +kernel
  rw [List.mem_singleton] at q; subst q; decide +kernel)
theorem put_in (c : Cf) {k : Str} {X : Value} (h : k ∈ six) (hr : (k = "nodename" → ∃ x, X = vs x) ∧ (k = "vnodes" → ∃ i, X = vi i) ∧ (k = "weight" → ∃ i, X = vi i)) : stored c.kvs k X = (c.put (k, X)).kvs := by
  unfold six at h
  rcases List.mem_cons.mp h with rfl | h
  · exact put_host c X
  rcases List.mem_cons.mp h with rfl | h
  · exact put_inst c X
  rcases List.mem_cons.mp h with rfl | h
  · obtain ⟨x, rfl⟩ := hr.1 rfl; exact put_nn c x
  rcases List.mem_cons.mp h with rfl | h
  · exact put_port c X
  rcases List.mem_cons.mp h with rfl | h
  · obtain ⟨x, rfl⟩ := hr.2.1 rfl; exact put_v c x
  rw [List.mem_singleton] at h; subst h
  obtain ⟨x, rfl⟩ := hr.2.2 rfl; exact put_wt c x
theorem ne_wt {w : World} {A : Around} {E : Value → Shared → Prop} {s : Shared} {Q : Value → Shared → Prop} {u : Value} {cur : Option Cf} {i : Int} {t : Tok} (hu : er u = er ((valueAt (curK cur) "weight").getD .none)) (h : Q (.bool (chgW cur i)) s) :
    wpAny (model PP w) A (compareOp .NotEq u (.int i t)) Q E s := by
  cases cur with
  | none => obtain rfl := none_of_er hu; walk1; exact h
  | some c =>
    rw [show valueAt (curK (some c)) "weight" = some (vi c.wt) from cf_wt c] at hu
    obtain ⟨t3, rfl⟩ := int_of_er hu
    walk1
    rw [bne_ne]
    exact h
theorem conf_dict (w : World) (C : Cx) (hB : Bs PP w (hK w.params) gl C) (hr hrd rt rtd dist ka npts nodes rg ha : Addr) (vn : Int) (nl : Nl) (nds : List Nd) (nd : Addr)
   (hnd : (nds.map (·.name)).Nodup) (gnl : (nl.map (·.1)).Nodup) (z : nl.length + nds.length ≤ 900)
   (A : Around) (rest : List Item) (s : Shared) (Q E : Value → Shared → Prop) (hA : Rm A 4 40) (hc : ∀ e ∈ nds, e.nc.ok w rest)
   (H : S C ((nd, DictI (sk PP w) (ndK nds) none) :: fixC w hr hrd rt rtd dist ka npts nodes rg ha vn nl (nlIts w nl ++ rest)) s)
   (hQ : ∀ nl' b s', Confs vn nl nds nl' b → S C ((nd, DictI (sk PP w) (ndK nds) none) :: fixC w hr hrd rt rtd dist ka npts nodes rg ha vn nl' (nlIts w nl' ++ rest)) s' → Q (.bool b) s') :
   wpAny (model PP w) A (call (.ref 157) [.ref hr, .ref nd]) Q E s := by
  refine wpAny_call ?_
  refine call_fnL H hB (hB.k H 157 _ rfl) rfl (codeRec_of (hB.k H) (by kernel_rfl)) rfl hA (BindsTo.of_eq rfl) (by kernel_rfl) (by kernel_rfl) (loc := frC hr nd none none none none none none none none) (by kernel_rfl) rfl ?_
  intro L s A1 E1 hA1 H env
  iterate 44 walk1
  have H : S C ((nd, DictI (sk PP w) (ndK nds) none) :: (L, NsI (frC hr nd (some (.bool false)) none none none none none none none)) :: fixC w hr hrd rt rtd dist ka npts nodes rg ha vn nl (nlIts w nl ++ rest)) _ := S.pick (ps := [(nd, _)]) H (by walk_at "pick") (by walk_at "sub")
  obtain ⟨n, H⟩ := H.named
  refine it_keys H (.head _) fun it s' hit H => ?_
  refine for_nx1 (nx_keys (knd := sk PP w) n hit) hA1.hd (fun i its' => ∃ b no cf cu nn nc k v nl', Confs vn nl (nds.take i) nl' b ∧ its' = (nd, DictI (sk PP w) (ndK nds) (some n)) :: (L, NsI (frC hr nd (some (.bool b)) no cf cu nn nc k v)) :: fixC w hr hrd rt rtd dist ka npts nodes rg ha vn nl' (nlIts w nl' ++ rest)) ?_ ⟨false, none, none, none, none, none, none, none, nl, .nil, rfl⟩ H ?_ ?_
  · rintro i l ⟨b, no, cf, cu, nn, nc, k, v, nl', _, rfl⟩
    exact .head _
  · rintro i v l s E' hi ⟨k, X, hx, hk⟩ ⟨b, no, cf, cu, nn, nc, kk, vv, nl', hcf, rfl⟩ H QI hQI
    have hi' : i < nds.length := by simpa [ndK] using hi
    have hx' : k = nds[i].name ∧ X = nds[i].nc.val := by
      unfold ndK at hx
      rw [List.getElem?_map, List.getElem?_eq_getElem hi'] at hx
      cases hx
      exact ⟨rfl, rfl⟩
    obtain ⟨rfl, rfl⟩ := hx'
    obtain ⟨t, rfl⟩ := Value.isStrOf_shape hk
    have hok := hc nds[i] (List.getElem_mem hi')
    have hval := ndK_at hnd hi'
    have gnl' := hcf.nodup gnl
    have hlen := hcf.len
    rw [List.length_take] at hlen
    have hlK : (nlK nl').length = nl'.length := List.length_map _
    have hstep : nds.take (i + 1) = nds.take i ++ [nds[i]] := by rw [List.take_add_one, List.getElem?_eq_getElem hi']; rfl
    have hsn := fun a => hcf.snoc (nd := nds[i]) (a := a)
    rw [← hstep] at hsn
    generalize hname : nds[i].name = name at *
    generalize hncv : nds[i].nc = ncv at *
    repeat' walk1
    rename_i cf _ _ _ _ _ e0
    refine cut1 (fun v s' => ∃ cc ccI, v = .ref cc ∧ (cc, DictI (sk PP w) (curK (nlAt nl' name)) none) ∈ ccI ∧ ccI = (e0, DictI (sk PP w) [] none) :: nlIts w nl' ∧
      S C ((it, KeyIt nd (ndK nds).length n (i + 1)) :: (nd, DictI (sk PP w) (ndK nds) (some n)) :: (L, NsI (frC hr nd (some (.bool b)) (some (.str name 0)) (some (.ref cf)) cu nn nc kk vv)) :: (cf, DictI (sk PP w) (cf0 vn name).kvs none) :: fixC w hr hrd rt rtd dist ka npts nodes rg ha vn nl' (ccI ++ rest)) s') ?_ ?_
    · intro QC hQC
      have H : S C ((it, KeyIt nd (ndK nds).length n (i + 1)) :: (nd, DictI (sk PP w) (ndK nds) (some n)) :: (L, NsI (frC hr nd (some (.bool b)) (some (.str name 0)) (some (.ref cf)) cu nn nc kk vv)) :: (cf, DictI (sk PP w) (cf0 vn name).kvs none) :: fixC w hr hrd rt rtd dist ka npts nodes rg ha vn nl' (((e0, DictI (sk PP w) [] none) :: nlIts w nl') ++ rest)) s :=
        S.pick (ps := [(it, _), (nd, _), (L, _), (cf, _), (hr, _), (hrd, _), (rt, _), (rtd, _), (nodes, _), (e0, _)]) H (by walk_at "pick") (by walk_at "sub")
      by_cases hn : name ∈ nl'.map (·.1)
      · obtain ⟨l1, l2, a0, c0, e1, h1, h2⟩ := nl_split hn gnl'
        have hv : valueAt (nlK nl') name = some (.ref a0) := by rw [e1]; exact nlK_mid h1
        have hat : nlAt nl' name = some c0 := by rw [e1]; exact nlAt_mid h1
        walk1
        exact hQC _ _ ⟨a0, _, rfl, by rw [hat, e1, nlIts_app]; exact .tail _ (List.mem_append_right _ (.head _)), rfl, by assumption⟩
      · have hv : valueAt (nlK nl') name = none := valueAt_none (by rw [nlK_keys]; exact hn)
        have hat := nlAt_none hn
        walk1
        exact hQC _ _ ⟨e0, _, rfl, by rw [hat]; exact .head _, rfl, by assumption⟩
    · rintro v s' ⟨cc, ccI, rfl, hcc, hI, H⟩
      generalize hcur : nlAt nl' name = cur at *
      have hcl : (curK cur).length ≤ 6 := by cases cur <;> simp [curK]
      have hce : (curK cur).isEmpty = cur.isNone := by cases cur <;> rfl
      iterate 6 walk1
      refine cut1 (fun f s' => f = .next ∧ S C ((it, KeyIt nd (ndK nds).length n (i + 1)) :: (nd, DictI (sk PP w) (ndK nds) (some n)) :: (L, NsI (frC hr nd (some (.bool (b || cur.isNone))) (some (.str name 0)) (some (.ref cf)) (some (.ref cc)) (some (.str name 0)) nc kk vv)) :: (cf, DictI (sk PP w) (cf0 vn name).kvs none) :: fixC w hr hrd rt rtd dist ka npts nodes rg ha vn nl' (ccI ++ rest)) s') ?_ ?_
      · intro QC hQC
        rw [← hce] at hQC
        cases hq : (curK cur).isEmpty
        · rw [hq, Bool.or_false] at hQC
          have hx : ¬ (!!(curK cur).isEmpty) = true := by rw [hq]; decide
          repeat' walk1
          all_goals exact hQC _ _ ⟨rfl, by assumption⟩
        · rw [hq, Bool.or_true] at hQC
          have hx : (!!(curK cur).isEmpty) = true := by rw [hq]; rfl
          repeat' walk1
          all_goals exact hQC _ _ ⟨rfl, by assumption⟩
      · rintro f s' ⟨rfl, H⟩
        generalize hb1 : (b || cur.isNone) = b1 at *
        walk1
        refine cut1 (fun f s' => f = .next ∧ (∃ nc kk vv, S C ((it, KeyIt nd (ndK nds).length n (i + 1)) :: (nd, DictI (sk PP w) (ndK nds) (some n)) :: (L, NsI (frC hr nd (some (.bool (b1 || chgRow cur ncv))) (some (.str name 0)) (some (.ref cf)) (some (.ref cc)) (some (.str name 0)) nc kk vv)) :: (cf, DictI (sk PP w) (confOf vn name ncv).kvs none) :: fixC w hr hrd rt rtd dist ka npts nodes rg ha vn nl' (ccI ++ rest)) s')) ?_ ?_
        · intro QC hQC
          cases ncv with
          | int x =>
            exact False.elim hok
          | row ra kvs =>
            have hval : valueAt (ndK nds) name = some (.ref ra) := hval
            obtain ⟨hm, hro, hkl⟩ := hok
            obtain ⟨q1, q2, hl⟩ := List.append_of_mem hm
            have hp : rest.Perm ((ra, DictI (sk PP w) kvs none) :: (q1 ++ q2)) := by rw [hl]; exact List.perm_middle
            have H := H.perm (perm_in (A := [_, _, _, _, _, _, _, _, _]) (B := ccI) hp)
            simp only [List.cons_append, List.nil_append] at H
            repeat' walk1
            rename_i vw
            obtain ⟨Z, hZ⟩ : ∃ Z : List Item, Z = (it, KeyIt nd (ndK nds).length n (i + 1)) :: (nd, DictI (sk PP w) (ndK nds) (some n)) :: fixC w hr hrd rt rtd dist ka npts nodes rg ha vn nl' (ccI ++ (q1 ++ q2)) := ⟨_, rfl⟩
            have hccZ : (cc, DictI (sk PP w) (curK cur) none) ∈ Z := by rw [hZ]; walk_at "mb"
            have H7 : S C ((ra, DictI (sk PP w) kvs none) :: (vw, ViewI "dict_items" ra) :: (L, NsI (frC hr nd (some (.bool b1)) (some (.str name 0)) (some (.ref cf)) (some (.ref cc)) (some (.str name 0)) (some (.ref ra)) kk vv)) :: (cf, DictI (sk PP w) (cf0 vn name).kvs none) :: Z) s := by
              rw [hZ]; exact S.pick (ps := [(ra, _), (vw, _), (L, _), (cf, _)]) H (by walk_at "pick") (by walk_at "sub")
            clear H
            obtain ⟨n2, H7⟩ := H7.named
            refine it_items H7 (by walk_at "mb") (by walk_at "mb") fun it2 s7 hit2 H8 => ?_
            refine for_nxT1 (nxT_items (knd := sk PP w) (kvs := kvs) n2 hit2) hA1.hd (fun j us ⟨_, _, _, _, _, e, _⟩ => by rw [e]; rfl) rfl (fun j its' => ∃ kk vv, its' = (ra, DictI (sk PP w) kvs (some n2)) :: (L, NsI (frC hr nd (some (.bool (b1 || (kvs.take j).any (chg cur)))) (some (.str name 0)) (some (.ref cf)) (some (.ref cc)) (some (.str name 0)) (some (.ref ra)) kk vv)) :: (cf, DictI (sk PP w) ((kvs.take j).foldl Cf.put (cf0 vn name)).kvs none) :: Z) ?_ ⟨kk, vv, rfl⟩ (S.mono H8 (by rw [List.take_zero, List.any_nil, Bool.or_false]; walk_at "sub")) ?_ ?_
            · rintro j l ⟨kk, vv, rfl⟩
              exact .head _
            · rintro j us l s E'' hj ⟨k, X, key, v, hx, rfl, hk, hv⟩ ⟨kk, vv, rfl⟩ H QI hQI
              obtain ⟨tk, rfl⟩ := Value.isStrOf_shape hk
              rw [List.getElem?_eq_getElem hj] at hx
              have hx := Option.some.inj hx
              have hmem : (k, X) ∈ kvs := by rw [← hx]; exact List.getElem_mem hj
              have hs1 : (kvs.take (j + 1)).foldl Cf.put (cf0 vn name) = ((kvs.take j).foldl Cf.put (cf0 vn name)).put (k, X) := by
                rw [List.take_add_one, List.getElem?_eq_getElem hj, hx, List.foldl_append]; rfl
              have hs2 : (b1 || (kvs.take (j + 1)).any (chg cur)) = ((b1 || (kvs.take j).any (chg cur)) || chg cur (k, X)) := by
                rw [List.take_add_one, List.getElem?_eq_getElem hj, hx, List.any_append, Bool.or_assoc]; simp
              rw [hs1, hs2] at hQI
              have hrk := hro _ hmem
              clear hs1 hs2
              generalize (kvs.take j).foldl Cf.put (cf0 vn name) = c at *
              generalize (b1 || (kvs.take j).any (chg cur)) = B at *
              have hX : er X = X := by rw [← hv]; exact er_er v
              by_cases k6 : k ∈ six
              · obtain ⟨W, hk1⟩ := cf_some c k6
                have hput := put_in c k6 hrk
                iterate 34 walk1
                by_cases k3 : k ∈ three
                · refine r_in_strs (b := true) (ys := three) (by walk_at "st") (by walk_at "mb") (by walk_at "stl") (List.any_eq_true.mpr ⟨k, k3, by simp⟩) ?_
                  iterate 12 walk1
                  refine r_get1 (by walk_at "st") (by walk_at "key") (by walk_at "sysm") (by walk_at "mb") fun s H => Ret.cases fun u hu => ?_
                  iterate 1 walk1
                  rename_i v2 hv2
                  have H : S C ((it2, ItemIt ra kvs.length n2 (j + 1)) :: (ra, DictI (sk PP w) kvs (some n2)) :: (L, NsI (frC hr nd (some (.bool B)) (some (.str name 0)) (some (.ref cf)) (some (.ref cc)) (some (.str name 0)) (some (.ref ra)) (some (.str k 0)) (some X))) :: (cf, DictI (sk PP w) (stored c.kvs k X) none) :: Z) s := by
                    have H := H
                    rw [hX] at H
                    exact S.pick (ps := [(it2, _)]) H (by walk_at "pick") (by walk_at "sub")
                  rw [hput] at H
                  refine cut1 (fun r s' => r = .bool (chg cur (k, X)) ∧ S C ((it2, ItemIt ra kvs.length n2 (j + 1)) :: (ra, DictI (sk PP w) kvs (some n2)) :: (L, NsI (frC hr nd (some (.bool B)) (some (.str name 0)) (some (.ref cf)) (some (.ref cc)) (some (.str name 0)) (some (.ref ra)) (some (.str k 0)) (some X))) :: (cf, DictI (sk PP w) (c.put (k, X)).kvs none) :: Z) s') ?_ ?_
                  · intro QC hQC
                    rw [hX] at hv2
                    clear hput hv hk1
                    rcases List.mem_cons.mp k3 with rfl | k3
                    · obtain ⟨x, rfl⟩ := hrk.1 rfl
                      obtain ⟨t2, rfl⟩ := str_of_er hv2
                      cases cur with
                      | none => obtain rfl := none_of_er hu; walk1; exact hQC _ _ ⟨rfl, S.tkTo H rfl rfl rfl⟩
                      | some cu =>
                        rw [show valueAt (curK (some cu)) "nodename" = some (vs cu.nn) from cf_nn cu] at hu
                        obtain ⟨t3, rfl⟩ := str_of_er hu
                        walk1
                        exact hQC _ _ ⟨congrArg Value.bool (bne_ne cu.nn x), S.tkTo H rfl rfl rfl⟩
                    rcases List.mem_cons.mp k3 with rfl | k3
                    · obtain ⟨x, rfl⟩ := hrk.2.1 rfl
                      obtain ⟨t2, rfl⟩ := int_of_er hv2
                      cases cur with
                      | none => obtain rfl := none_of_er hu; walk1; exact hQC _ _ ⟨rfl, S.tkTo H rfl rfl rfl⟩
                      | some cu =>
                        rw [show valueAt (curK (some cu)) "vnodes" = some (vi cu.v) from cf_v cu] at hu
                        obtain ⟨t3, rfl⟩ := int_of_er hu
                        walk1
                        exact hQC _ _ ⟨congrArg Value.bool (bne_ne cu.v x), S.tkTo H rfl rfl rfl⟩
                    rw [List.mem_singleton] at k3
                    subst k3
                    obtain ⟨x, rfl⟩ := hrk.2.2 rfl
                    obtain ⟨t2, rfl⟩ := int_of_er hv2
                    cases cur with
                    | none => obtain rfl := none_of_er hu; walk1; exact hQC _ _ ⟨rfl, S.tkTo H rfl rfl rfl⟩
                    | some cu =>
                      rw [show valueAt (curK (some cu)) "weight" = some (vi cu.wt) from cf_wt cu] at hu
                      obtain ⟨t3, rfl⟩ := int_of_er hu
                      walk1
                      exact hQC _ _ ⟨congrArg Value.bool (bne_ne cu.wt x), S.tkTo H rfl rfl rfl⟩
                  rintro r s ⟨rfl, H⟩
                  clear hput
                  cases hc : chg cur (k, X)
                  · rw [hc, Bool.or_false] at hQI
                    have hc1 : ¬ false = true := Bool.false_ne_true
                    repeat' walk1
                    exact hQI _ _ (TurnEnd.next ⟨some (.str k 0), some X, rfl⟩ (S.tkTo H rfl rfl rfl))
                  · rw [hc, Bool.or_true] at hQI
                    repeat' walk1
                    exact hQI _ _ (TurnEnd.next ⟨some (.str k 0), some X, rfl⟩ (S.tkTo H rfl rfl rfl))
                · refine r_in_strs (b := false) (ys := three) (by walk_at "st") (by walk_at "mb") (by walk_at "stl") (by
                    cases hq : three.any (· == k) with
                    | false => rfl
                    | true => obtain ⟨y, h1, h2⟩ := List.any_eq_true.mp hq; exact absurd ((beq_iff_eq.mp h2) ▸ h1) k3) ?_
                  rw [chg_not3 cur k3, Bool.or_false] at hQI
                  repeat' walk1
                  rw [hX, hput] at H
                  exact hQI _ _ (TurnEnd.next ⟨some (.str k 0), some X, rfl⟩ (S.pick (ps := [(it2, _)]) H (by walk_at "pick") (by walk_at "sub")))
              · have hk1 := cf_none' c k6
                rw [put_out c k6, chg_out cur k6, Bool.or_false] at hQI
                repeat' walk1
                exact hQI _ _ (TurnEnd.next ⟨some (.str k 0), some X, rfl⟩ (S.pick (ps := [(it2, _)]) H (by walk_at "pick") (by walk_at "sub")))
            · rintro l s E'' ⟨kk, vv, rfl⟩ H
              rw [List.take_of_length_le (Nat.le_refl _)] at H
              repeat' walk1
              refine hQC _ _ ⟨rfl, some (.ref ra), kk, vv, ?_⟩
              have H := H.unnamed
              rw [hZ] at H
              have H9 : S C ((ra, DictI (sk PP w) kvs none) :: ([(it, KeyIt nd (ndK nds).length n (i + 1)), (nd, DictI (sk PP w) (ndK nds) (some n)), (L, NsI (frC hr nd (some (.bool (b1 || kvs.any (chg cur)))) (some (.str name 0)) (some (.ref cf)) (some (.ref cc)) (some (.str name 0)) (some (.ref ra)) kk vv)), (cf, DictI (sk PP w) (kvs.foldl Cf.put (cf0 vn name)).kvs none), (hr, InstI 392 hrd), (hrd, DictI (sk PP w) (hrA rt vn .none) none), (rt, InstI 118 rtd), (rtd, DictI (sk PP w) (rtA dist ka npts nodes rg (.ref ha)) none), (nodes, DictI (sk PP w) (nlK nl') none)] ++ (ccI ++ (q1 ++ q2)))) s := S.pick (ps := [(ra, _), (it, _), (nd, _)]) H (by walk_at "pick") (by walk_at "sub")
              exact H9.perm (perm_out hp)
        · rintro f s' ⟨rfl, nc, kk, vv, H⟩
          generalize hb2 : (b1 || chgRow cur ncv) = b2 at *
          iterate 10 walk1
          refine cut1 (fun f s' => f = .next ∧ S C ((it, KeyIt nd (ndK nds).length n (i + 1)) :: (nd, DictI (sk PP w) (ndK nds) (some n)) :: (L, NsI (frC hr nd (some (.bool (b2 || chgW cur (confOf vn name ncv).wt))) (some (.str name 0)) (some (.ref cf)) (some (.ref cc)) (some (.str name 0)) nc kk vv)) :: (cf, DictI (sk PP w) (confOf vn name ncv).kvs none) :: fixC w hr hrd rt rtd dist ka npts nodes rg ha vn nl' (ccI ++ rest)) s') ?_ ?_
          · intro QC hQC
            have hw1 := cf_wt (confOf vn name ncv)
            iterate 9 walk1
            refine r_get1 (by walk_at "st") (by walk_at "key") (by walk_at "sysm") (by walk_at "mb") fun s H => Ret.cases fun u hu => ?_
            iterate 4 walk1
            refine ne_wt hu ?_
            have hff : ¬ false = true := Bool.false_ne_true
            cases hcw : chgW cur (confOf vn name ncv).wt
            · rw [hcw, Bool.or_false] at hQC
              repeat' walk1
              exact hQC _ _ ⟨rfl, S.tkTo H rfl rfl rfl⟩
            · rw [hcw, Bool.or_true] at hQC
              repeat' walk1
              exact hQC _ _ ⟨rfl, S.tkTo H rfl rfl rfl⟩
          · rintro f s' ⟨rfl, H⟩
            have hflag : (b2 || chgW cur (confOf vn name ncv).wt) = (b || chgOf vn name cur ncv) := by
              rw [← hb2, ← hb1]; unfold chgOf; simp only [Bool.or_assoc]
            rw [hflag] at H
            repeat' walk1
            rw [← nlK_set (c := confOf vn name ncv), hI] at H
            have H10 : S C ((it, KeyIt nd (ndK nds).length n (i + 1)) :: (nd, DictI (sk PP w) (ndK nds) (some n)) :: (L, NsI (frC hr nd (some (.bool (b || chgOf vn name cur ncv))) (some (.str name 0)) (some (.ref cf)) (some (.ref cc)) (some (.str name 0)) nc kk vv)) :: fixC w hr hrd rt rtd dist ka npts nodes rg ha vn (nlSet nl' name cf (confOf vn name ncv)) ((cf, DictI (sk PP w) (confOf vn name ncv).kvs none) :: (nlIts w nl' ++ rest))) s :=
              S.pick (ps := [(it, _), (nd, _), (L, _), (hr, _), (hrd, _), (rt, _), (rtd, _), (nodes, _), (cf, _)]) H (by walk_at "pick") (by walk_at "sub")
            have H11 := S.nl (name := name) (A := [_, _, _, _, _, _, _, _]) gnl' H10
            exact hQI _ _ (TurnEnd.next ⟨_, _, _, _, _, _, _, _, _, hsn cf, rfl⟩ H11)
  · rintro l s E' ⟨b, no, cf, cu, nn, nc, k, v, nl', hcf, rfl⟩ H
    rw [List.take_of_length_le (by simp [ndK])] at hcf
    repeat' walk1
    have H10 : S C ((nd, DictI (sk PP w) (ndK nds) (some n)) :: fixC w hr hrd rt rtd dist ka npts nodes rg ha vn nl' (nlIts w nl' ++ rest)) s := S.pick (ps := [(nd, _)]) H (by walk_at "pick") (by walk_at "sub")
    exact hQ nl' b _ hcf H10.unnamed

end Mc

namespace Mc
/-- the hash handed in, asked for a whole number -/
noncomputable def HKey (w : World) (C : Cx) (ha : Addr) (hIts : List Item) (g : Int → Int) : Prop := ∀ (A : Around) its s (Q E : Value → Shared → Prop) (key : Int) t, Rm A 3 30 → S C its s → (∀ p ∈ hIts, p ∈ its) → (∀ t' s', S C its s' → Q (.int (g key) t') s') → wpAny (model PP w) A (call (.ref ha) [.int key t]) Q E s
/-- where a key goes -/
noncomputable def posOf (ns : List Int) (x : Int) : Nat := if (ns.filter fun n => decide (n ≤ x)).length = ns.length then 0 else (ns.filter fun n => decide (n ≤ x)).length
theorem Upto.eq {ns : List Int} {x : Int} {p : Nat} (h : Upto ns x p) : p = (ns.filter fun n => decide (n ≤ x)).length := by
  obtain ⟨h1, h2, h3⟩ := h
  have e : ns.filter (fun n => decide (n ≤ x)) = ns.take p := by
    conv => lhs; rw [← List.take_append_drop p ns]
    rw [List.filter_append, List.filter_eq_self.mpr, List.filter_eq_nil_iff.mpr, List.append_nil]
    · intro a ha
      obtain ⟨i, hi, rfl⟩ := List.mem_iff_getElem.mp ha
      rw [List.getElem_drop]
      have := h3 (p + i) (by simp at hi; omega) (by omega)
      simpa using this
    · intro a ha
      obtain ⟨i, hi, rfl⟩ := List.mem_iff_getElem.mp ha
      rw [List.getElem_take]
      have := h2 i (by simp at hi; omega) (by simp at hi; omega)
      simpa using this
  rw [e, List.length_take]; omega
/-- the node that holds a place -/
noncomputable def own (ns : List Int) (rl : List (Int × Value)) (x : Int) : Value := ((ns[posOf ns x]?).bind (valueAt rl)).getD .none
theorem hashi_int (w : World) (C : Cx) (hB : Bs PP w (hK w.params) gl C) (rt rtd dist ka npts nodes rg ha : Addr) (hIts : List Item) (h : Str → Int) (dom : Str → Prop) (hh : HOk w C ha hIts h dom) (g : Int → Int) (hk : HKey w C ha hIts g)
   (A : Around) (its : List Item) (s : Shared) (Q E : Value → Shared → Prop) (key : Int) (t : Tok) (hA : Rm A 4 40) (H : S C its s) (hi : ∀ p ∈ hIts, p ∈ its) (h1 : (rt, InstI 118 rtd) ∈ its) (h2 : (rtd, DictI (sk PP w) (rtA dist ka npts nodes rg (.ref ha)) none) ∈ its)
   (hQ : ∀ t' s', S C its s' → Q (.int (g key) t') s') : wpAny (model PP w) A (call (.ref 101) [.ref rt, .int key t]) Q E s := by
  refine wpAny_call ?_
  refine call_fnL H hB (hB.k H 101 _ rfl) rfl (codeRec_of (hB.k H) (by kernel_rfl)) rfl hA (BindsTo.of_eq rfl) (by kernel_rfl) (by kernel_rfl) (loc := [("self", some (.ref rt)), ("key", some (.int key 0))]) (by kernel_rfl) rfl ?_
  intro L s A1 E1 hA1 H env
  have hi' : ∀ {q : Item} , ∀ p ∈ hIts, p ∈ q :: its := fun p hp => .tail _ (hi p hp)
  repeat' walk1
  refine callWith_F (hh.fn _ _ (by assumption) hi') ?_
  repeat' walk1
  · exact hh.fn _ _ (by assumption) hi'
  · exact hk _ _ _ _ _ _ _ (hA1.le (by decide) (by decide)) (by assumption) hi' fun t' s' H' => hQ _ _ H'.tail
theorem hr_hashi (w : World) (C : Cx) (hB : Bs PP w (hK w.params) gl C) (hr hrd rt rtd dist ka npts nodes rg ha : Addr) (vn : Int) (wf : Value) (hIts : List Item) (h : Str → Int) (dom : Str → Prop) (hh : HOk w C ha hIts h dom) (g : Int → Int) (hk : HKey w C ha hIts g)
   (A : Around) (its : List Item) (s : Shared) (Q E : Value → Shared → Prop) (key : Int) (t : Tok) (hA : Rm A 5 50) (H : S C its s) (hi : ∀ p ∈ hIts, p ∈ its) (h3 : (hr, InstI 392 hrd) ∈ its) (h4 : (hrd, DictI (sk PP w) (hrA rt vn wf) none) ∈ its) (h1 : (rt, InstI 118 rtd) ∈ its) (h2 : (rtd, DictI (sk PP w) (rtA dist ka npts nodes rg (.ref ha)) none) ∈ its)
   (hQ : ∀ t' s', S C its s' → Q (.int (g key) t') s') : wpAny (model PP w) A (call (.ref 150) [.ref hr, .int key t]) Q E s := by
  refine wpAny_call ?_
  refine call_fnL H hB (hB.k H 150 _ rfl) rfl (codeRec_of (hB.k H) (by kernel_rfl)) rfl hA (BindsTo.of_eq rfl) (by kernel_rfl) (by kernel_rfl) (loc := [("self", some (.ref hr)), ("key", some (.int key 0))]) (by kernel_rfl) rfl ?_
  intro L s A1 E1 hA1 H env
  have hi' : ∀ {q : Item} , ∀ p ∈ hIts, p ∈ q :: its := fun p hp => .tail _ (hi p hp)
  repeat' walk1
  refine hashi_int w C hB rt rtd dist ka npts nodes rg ha hIts h dom hh g hk _ _ _ _ _ key _ (hA1.le (by decide) (by decide)) (by walk_at "st") hi' (by walk_at "mb") (by walk_at "mb") fun t' s' H' => ?_
  exact hQ _ _ H'.tail
theorem get_pos (w : World) (C : Cx) (hB : Bs PP w (hK w.params) gl C) (hr hrd rt rtd dist ka npts nodes rg ha : Addr) (vn : Int) (wf : Value) (hIts : List Item) (h : Str → Int) (dom : Str → Prop) (hh : HOk w C ha hIts h dom) (g : Int → Int) (hk : HKey w C ha hIts g)
   (ns : List Int) (hs : ns.Pairwise (· ≤ ·)) (hz : ns.length < 64)
   (A : Around) (its : List Item) (s : Shared) (Q E : Value → Shared → Prop) (key : Int) (t : Tok) (hA : Rm A 6 60) (H : S C its s) (hi : ∀ p ∈ hIts, p ∈ its) (h3 : (hr, InstI 392 hrd) ∈ its) (h4 : (hrd, DictI (sk PP w) (hrA rt vn wf) none) ∈ its) (h1 : (rt, InstI 118 rtd) ∈ its) (h2 : (rtd, DictI (sk PP w) (rtA dist ka npts nodes rg (.ref ha)) none) ∈ its) (h5 : (ka, ListI (ns.map vi)) ∈ its)
   (hQ : ∀ t' s', S C its s' → Q (.int (posOf ns (g key) : Nat) t') s') : wpAny (model PP w) A (call (.ref 210) [.ref hr, .int key t]) Q E s := by
  refine wpAny_call ?_
  refine call_fnL H hB (hB.k H 210 _ rfl) rfl (codeRec_of (hB.k H) (by kernel_rfl)) rfl hA (BindsTo.of_eq rfl) (by kernel_rfl) (by kernel_rfl) (loc := [("self", some (.ref hr)), ("key", some (.int key 0)), ("p", none)]) (by kernel_rfl) rfl ?_
  intro L s A1 E1 hA1 H env
  have hi' : ∀ {q : Item} , ∀ p ∈ hIts, p ∈ q :: its := fun p hp => .tail _ (hi p hp)
  repeat' walk1
  refine hr_hashi w C hB hr hrd rt rtd dist ka npts nodes rg ha vn wf hIts h dom hh g hk _ _ _ _ _ key _ (hA1.le (by decide) (by decide)) (by walk_at "st") hi' (by walk_at "mb") (by walk_at "mb") (by walk_at "mb") (by walk_at "mb") fun t' s H => ?_
  repeat' walk1
  refine bis w C hB ka ns hs (g key) hz _ _ _ _ _ _ (hA1.le (by decide) (by decide)) (by walk_at "st") (by walk_at "mb") fun p t' s hp H => ?_
  repeat' walk1
  · have hc : ((p : Nat) : Int) = ((ns.map vi).length : Nat) := by assumption
    rw [List.length_map] at hc
    have e : posOf ns (g key) = 0 := by unfold posOf; rw [← hp.eq]; exact if_pos (by omega)
    rw [e] at hQ
    exact hQ _ _ (S.tail (by walk_at "st"))
  · have hc : ((p : Nat) : Int) ≠ ((ns.map vi).length : Nat) := by assumption
    rw [List.length_map] at hc
    have e : posOf ns (g key) = p := by unfold posOf; rw [← hp.eq]; exact if_neg (by omega)
    rw [e] at hQ
    exact hQ _ _ (S.tail (by walk_at "st"))

end Mc

namespace Mc
/-- a list's items: nodes without a row -/
noncomputable def lstN (xs : List Str) : List Nd := xs.map fun x => ⟨x, .row 0 []⟩
end Mc

namespace Mc
theorem posOf_lt {ns : List Int} {x : Int} (h : ns ≠ []) : posOf ns x < ns.length := by
  have h1 := List.length_filter_le (fun n => decide (n ≤ x)) ns
  have h2 := List.length_pos_iff.mpr h
  unfold posOf
  split <;> omega
theorem get_nn (w : World) (C : Cx) (hB : Bs PP w (hK w.params) gl C) (hr hrd rt rtd dist ka npts nodes rg ha : Addr) (vn : Int) (wf : Value) (hIts : List Item) (h : Str → Int) (dom : Str → Prop) (hh : HOk w C ha hIts h dom) (g : Int → Int) (hk : HKey w C ha hIts g)
   (ns : List Int) (hs : ns.Pairwise (· ≤ ·)) (rl : List (Int × Value)) (hz : rl.length < 64) (hp : ns.Perm (rl.map (·.1))) (hst : Strs rl) (s3 : (rg == sysModules) = false)
   (A : Around) (its : List Item) (s : Shared) (Q E : Value → Shared → Prop) (key : Int) (t : Tok) (hA : Rm A 8 80) (H : S C its s) (hi : ∀ p ∈ hIts, p ∈ its) (h3 : (hr, InstI 392 hrd) ∈ its) (h4 : (hrd, DictI (sk PP w) (hrA rt vn wf) none) ∈ its) (h1 : (rt, InstI 118 rtd) ∈ its) (h2 : (rtd, DictI (sk PP w) (rtA dist ka npts nodes rg (.ref ha)) none) ∈ its) (h5 : (ka, ListI (ns.map vi)) ∈ its) (h6 : (rg, DictI (ik PP w) rl none) ∈ its)
   (hQ : ∀ v s', er v = own ns rl (g key) → S C its s' → Q v s') : wpAny (model PP w) A (call (.ref 245) [.ref hr, .int key t]) Q E s := by
  have hlen : ns.length = rl.length := by rw [hp.length_eq, List.length_map]
  refine wpAny_call ?_
  refine call_fnL H hB (hB.k H 245 _ rfl) rfl (codeRec_of (hB.k H) (by kernel_rfl)) rfl hA (BindsTo.of_eq rfl) (by kernel_rfl) (by kernel_rfl) (loc := [("self", some (.ref hr)), ("key", some (.int key 0))]) (by kernel_rfl) rfl ?_
  intro L s A1 E1 hA1 H env
  repeat' walk1
  refine wpAny_call ?_
  refine call_fnL (by walk_at "st") hB (hB.k H 217 _ rfl) rfl (codeRec_of (hB.k H) (by kernel_rfl)) rfl hA1 (BindsTo.of_eq rfl) (by kernel_rfl) (by kernel_rfl) (loc := [("self", some (.ref hr)), ("key", some (.int key 0)), ("what", some (.str "nodename" 0)), ("pos", none), ("nodename", none)]) (by kernel_rfl) rfl ?_
  intro L2 s A2 E2 hA2 H env2
  have hi' : ∀ {q r : Item} , ∀ p ∈ hIts, p ∈ q :: r :: its := fun p hp => .tail _ (.tail _ (hi p hp))
  by_cases hr0 : rl = []
  · subst hr0
    have hn0 : ns = [] := List.length_eq_zero_iff.mp (by simpa using hlen)
    repeat' walk1
    exact hQ _ _ (by subst hn0; rfl) (S.tail (S.tail (by walk_at "st")))
  · have hn0 : ns ≠ [] := fun e => hr0 (List.length_eq_zero_iff.mp (by rw [← hlen, e]; rfl))
    have he0 : rl.isEmpty = false := by cases rl with | nil => exact absurd rfl hr0 | cons _ _ => rfl
    have hpl := posOf_lt (x := g key) hn0
    have hne := List.getElem?_eq_getElem hpl
    have hmem : ns[posOf ns (g key)] ∈ rl.map (·.1) := hp.mem_iff.mp (List.getElem_mem hpl)
    have hnl := hlen
    obtain ⟨q, hq, hqe⟩ := List.mem_map.mp hmem
    have g1 : (0 : Int) ≤ (posOf ns (g key) : Nat) := by omega
    have g2 : ((posOf ns (g key) : Nat) : Int) < 9223372036854775808 := by omega
    have g3 : (ns.map vi)[((posOf ns (g key) : Nat) : Int).toNat]? = some (vi ns[posOf ns (g key)]) := by rw [Int.toNat_natCast, List.getElem?_map, hne]; rfl
    have g4 : ∃ nm, valueAt rl ns[posOf ns (g key)] = some (vs nm) := by
      cases hv : valueAt rl ns[posOf ns (g key)] with
      | none =>
        unfold valueAt at hv
        rw [Option.map_eq_none_iff, List.find?_eq_none] at hv
        exact absurd (by simpa using hqe) (hv q hq)
      | some Y =>
        obtain ⟨nm, rfl⟩ := hst.at hv
        exact ⟨nm, rfl⟩
    obtain ⟨nm, g4⟩ := g4
    have g5 : own ns rl (g key) = vs nm := by unfold own; rw [hne]; show (valueAt rl _).getD _ = _; rw [g4]; rfl
    have hx : ¬ (!!rl.isEmpty) = true := by rw [he0]; decide
    repeat' walk1
    refine get_pos w C hB hr hrd rt rtd dist ka npts nodes rg ha vn wf hIts h dom hh g hk ns hs (by omega) _ _ _ _ _ key _ (hA2.le (by decide) (by decide)) (by walk_at "st") hi' (by walk_at "mb") (by walk_at "mb") (by walk_at "mb") (by walk_at "mb") (by walk_at "mb") fun t' s H => ?_
    repeat' walk1
    exact hQ _ _ (by rw [g5]; rfl) (S.mono (its := (_ :: (L2, _) :: (L, _) :: its)) (by walk_at "st") (by walk_at "sub"))

end Mc

namespace Mc
/-- a ring's places -/
structure Rg where
  hr : Addr
  hrd : Addr
  rt : Addr
  rtd : Addr
  dist : Addr
  npts : Addr
  nodes : Addr
  rg : Addr
  vn : Int
/-- what a ring holds -/
structure RS where
  m : MS
  nl : Nl
  ka : Addr
  ns : List Int
/-- a ring's items -/
noncomputable def rgIts (w : World) (ha : Addr) (r : Rg) (st : RS) : List Item :=
  (r.hr, InstI 392 r.hrd) :: (r.hrd, DictI (sk PP w) (hrA r.rt r.vn .none) none) :: (r.rt, InstI 118 r.rtd) :: (r.rtd, DictI (sk PP w) (rtA r.dist st.ka r.npts r.nodes r.rg (.ref ha)) none) ::
  (r.dist, DictI (sk PP w) st.m.dl none) :: (st.ka, ListI (st.ns.map vi)) :: (r.npts, DictI (sk PP w) (plK st.m.pl) none) :: (r.nodes, DictI (sk PP w) (nlK st.nl) none) :: (r.rg, DictI (ik PP w) st.m.rl none) ::
  (ptsIts st.m.pl ++ nlIts w st.nl)
structure StOk (st : RS) : Prop where
  g : Good st.m
  nd : (st.nl.map (·.1)).Nodup
  pm : st.ns.Perm (st.m.rl.map (·.1))
  so : st.ns.Pairwise (· ≤ ·)
noncomputable abbrev rs0 (ka : Addr) : RS := ⟨⟨[], [], []⟩, [], ka, []⟩
theorem good0 : Good ⟨[], [], []⟩ := ⟨by simp, by simp, by simp, fun p hp => (by cases hp), by simp, by simp⟩
/-- keywords of a ring by a hash handed in -/
structure KwOk (kw : List (Str × Value)) (ha : Addr) (vn : Int) : Prop where
  hf : valueAt (kwKvs [] kw) "hash_fn" = some (.ref ha)
  vn : (valueAt (kwKvs [] kw) "vnodes" = none ∧ vn = 160) ∨ valueAt (kwKvs [] kw) "vnodes" = some (vi vn)
  wf : valueAt (kwKvs [] kw) "weight_fn" = none
  md : valueAt (kwKvs [] kw) "md5" = none
  ks : ∀ p ∈ kw, p.1 ≠ "self" ∧ p.1 ≠ "nodes"
  len : kw.length ≤ 10
/-- what _configure_nodes does with nodes of one form -/
noncomputable def ConfC (w : World) (C : Cx) (nItem : Item) (nds : List Nd) (nd : Addr) (okR : List Item → Prop) : Prop :=
  ∀ (hr hrd rt rtd dist ka npts nodes rg ha : Addr) (vn : Int) (nl : Nl) (A : Around) (rest : List Item) (s : Shared) (Q E : Value → Shared → Prop), (nl.map (·.1)).Nodup → nl.length + nds.length ≤ 900 → Rm A 4 40 → okR rest →
    S C (nItem :: fixC w hr hrd rt rtd dist ka npts nodes rg ha vn nl (nlIts w nl ++ rest)) s →
    (∀ nl' b s', Confs vn nl nds nl' b → S C (nItem :: fixC w hr hrd rt rtd dist ka npts nodes rg ha vn nl' (nlIts w nl' ++ rest)) s' → Q (.bool b) s') → wpAny (model PP w) A (call (.ref 157) [.ref hr, .ref nd]) Q E s
theorem confC_dict {w : World} {C : Cx} (hB : Bs PP w (hK w.params) gl C) (nds : List Nd) (nd : Addr) (hnd : (nds.map (·.name)).Nodup) : ConfC w C (nd, DictI (sk PP w) (ndK nds) none) nds nd (fun rest => ∀ e ∈ nds, e.nc.ok w rest) :=
  fun hr hrd rt rtd dist ka npts nodes rg ha vn nl A rest s Q E gnl z hA hc H hQ => conf_dict w C hB hr hrd rt rtd dist ka npts nodes rg ha vn nl nds nd hnd gnl z A rest s Q E hA hc H hQ
noncomputable def elsOf (nl : Nl) : List El := nl.map fun p => ⟨p.1, p.2.1, p.2.2.v, p.2.2.wt⟩
structure ElsOk (dom : Str → Prop) (nl : Nl) : Prop where
  b : ∀ p ∈ nl, 1 ≤ p.2.2.v ∧ p.2.2.v ≤ 1000 ∧ 1 ≤ p.2.2.wt ∧ p.2.2.wt ≤ 1000 ∧ p.1.length ≤ 100 ∧ ∀ k, k < (p.2.2.v * p.2.2.wt - 0).toNat → dom (keyN p.1 k)
  sum : ((elsOf nl).map El.cnt).sum < 64
  len : nl.length ≤ 900
theorem itok_items {w : World} {C : Cx} {nodes nv : Addr} (nl : Nl) (n : Nat) : ItOk w C nv (elsOf nl) [(nv, ViewI "dict_items" nodes), (nodes, DictI (sk PP w) (nlK nl) (some n))] [(nv, ViewI "dict_items" nodes), (nodes, DictI (sk PP w) (nlK nl) (some n))] where
  go := fun A its s Q E H hQ => it_items (knd := sk PP w) H (.head _) (.tail _ (.head _)) fun it s' hit H' => hQ it s' (ItemIt nodes (nlK nl).length n) hit
    ((nxT_items (knd := sk PP w) (kvs := nlK nl) n hit).conv (by simp [nlK, elsOf]) (fun i us ⟨k, X, key, v, hx, hu, hk, hv⟩ => by
      unfold nlK at hx
      rw [List.getElem?_map] at hx
      obtain ⟨q, hq, e⟩ := Option.map_eq_some_iff.mp hx
      obtain ⟨hi, hq⟩ := List.getElem?_eq_some_iff.mp hq
      cases e
      obtain ⟨t, rfl⟩ := Value.isStrOf_shape hk
      have hv := ref_of_er hv
      subst hv
      refine ⟨by unfold elsOf; rw [List.length_map]; exact hi, t, ?_⟩
      rw [hu]
      simp [elsOf, hq]) (fun its h => h _ (.tail _ (.head _)))) H'
  back := fun _ _ H => H
theorem Confs.keys {vn : Int} {nds nl b} (h : Confs vn [] nds nl b) (hn : (nds.map (·.name)).Nodup) : nl.map (·.1) = nds.map (·.name) := by
  induction h with
  | nil => rfl
  | @snoc nds nd nl' b a h ih =>
    rw [List.map_append, List.nodup_append] at hn
    have ih := ih hn.1
    have hx : nd.name ∉ nl'.map (·.1) := by
      rw [ih]
      exact fun q => hn.2.2 _ q _ (.head _) rfl
    rw [nlSet_new hx, List.map_append, List.map_append, ih]; rfl
theorem Confs.none {vn : Int} {nds nl b} (h : Confs vn [] nds nl b) (hn : (nds.map (·.name)).Nodup) (hb : b = false) : nds = [] ∧ nl = [] := by
  cases h with
  | nil => exact ⟨rfl, rfl⟩
  | @snoc nds nd nl' b a h =>
    rw [List.map_append, List.nodup_append] at hn
    have ih := h.keys hn.1
    have hx : nd.name ∉ nl'.map (·.1) := by
      rw [ih]
      exact fun q => hn.2.2 _ q _ (.head _) rfl
    rw [nlAt_none hx] at hb
    simp [chgOf] at hb
/-- HashRing(.., hash_fn=..): up to the nodes -/
theorem hr_init (w : World) (C : Cx) (hB : Bs PP w (hK w.params) gl C) (A : Around) (rest : List Item) (s : Shared) (Q E : Value → Shared → Prop) (ha : Addr) (fdH : FuncData) (nd : Addr) (hA : Rm A 9 90) (hi : (ha, FnI fdH) ∈ rest) (kw : List (Str × Value)) (vn : Int) (hk : KwOk kw ha vn)
   (nItem : Item) (nds : List Nd) (okR : List Item → Prop) (hcf : ConfC w C nItem nds nd okR) (hok : ∀ its, rest.Sublist its → okR its) (hz : nds.length ≤ 900) (hnd : (nds.map (·.name)).Nodup)
   (hIts : List Item) (h : Str → Int) (dom : Str → Prop) (hh : HOk w C ha hIts h dom) (hr0 : ∀ p ∈ hIts, p ∈ rest) (hE : ∀ nl b, Confs vn [] nds nl b → ElsOk dom nl)
   (H : S C (nItem :: rest) s) 
   (hQ : ∀ r st s', r.vn = vn → (∃ b, Confs vn [] nds st.nl b) → Lays h ⟨[], [], []⟩ (elsOf st.nl) st.m → StOk st → S C (rgIts w ha r st ++ (nItem :: rest)) s' → Q (.ref r.hr) s') : wpAny (model PP w) A (call (.ref 392) [.ref nd] kw) Q E s := by
  have hks := hk.ks
  have hkl := hk.len
  have hkz := kwKvs_len kw []
  refine wpAny_call ?_
  refine r_make (D := 392) (fI := 143) H hB (by kernel_rfl) (by kernel_rfl) (by kernel_rfl) fun hr hrd s H => ?_
  have hA' := hA.under_make 392 [.ref nd] kw
  refine call_kwL H hB (hB.k H 143 _ rfl) rfl (codeRec_of (hB.k H) (by kernel_rfl)) rfl hA' rfl rfl (hB.k H 138 _ rfl) rfl hk.ks (by omega) (by kernel_rfl) (by kernel_rfl) (loc := [("hash_fn", none), ("vnodes", none), ("weight_fn", none), ("ketama_args", none)]) (by kernel_rfl) (by kernel_rfl) ?_
  intro kd L s A1 E1 hA1 H env
  have hk1 := hk.hf
  have hk3 := hk.wf
  have hk4 := hk.md
  obtain ⟨vnv, hvn⟩ : ∃ vnv, (valueAt (kwKvs [] kw) "vnodes" = none ∧ vn = 160 ∧ vnv = Value.none) ∨ (valueAt (kwKvs [] kw) "vnodes" = some (vi vn) ∧ vnv = vi vn) := by
    rcases hk.vn with ⟨h1, h2⟩ | h1
    · exact ⟨_, .inl ⟨h1, h2, rfl⟩⟩
    · exact ⟨_, .inr ⟨h1, rfl⟩⟩
  iterate 24 walk1
  refine cut1 (fun v s' => er v = vnv ∧ S C ((L, NsI [("self", some (.ref hr)), ("nodes", some (.ref nd)), ("kwargs", some (.ref kd)), ("hash_fn", some (.ref ha)), ("vnodes", none), ("weight_fn", none), ("ketama_args", none)]) :: (kd, DictI (sk PP w) (kwKvs [] kw) none) :: (hr, InstI 392 hrd) :: (hrd, DictI (sk PP w) [] none) :: nItem :: rest) s') ?_ ?_
  · intro QC hQC
    rcases hvn with ⟨hk2, rfl, rfl⟩ | ⟨hk2, rfl⟩
    · walk1
      exact hQC _ _ ⟨rfl, H⟩
    · walk1
      exact hQC _ _ ⟨rfl, H⟩
  rintro v s ⟨hev, H⟩
  iterate 23 walk1
  refine cut1 (fun f s' => f = .next ∧ S C ((L, NsI [("self", some (.ref hr)), ("nodes", some (.ref nd)), ("kwargs", some (.ref kd)), ("hash_fn", some (.ref ha)), ("vnodes", some (vi vn)), ("weight_fn", some .none), ("ketama_args", none)]) :: (kd, DictI (sk PP w) (kwKvs [] kw) none) :: (hr, InstI 392 hrd) :: (hrd, DictI (sk PP w) [] none) :: nItem :: rest) s') ?_ ?_
  · intro QC hQC
    rcases hvn with ⟨hk2, rfl, rfl⟩ | ⟨hk2, rfl⟩
    · repeat' walk1
      all_goals exact hQC _ _ ⟨rfl, H⟩
    · repeat' walk1
      all_goals exact hQC _ _ ⟨rfl, S.tk H⟩
  rintro f s ⟨rfl, H⟩
  repeat' walk1
  refine mr_init w C hB _ _ _ _ _ ha fdH _ (hA1.le (by decide) (by decide)) H (by walk_at "mb") fun rt rtd dist ka npts nodes rg s H => ?_
  repeat' walk1
  have H : S C (nItem :: fixC w hr hrd rt rtd dist ka npts nodes rg ha vn [] (nlIts w [] ++ ((dist, DictI (sk PP w) [] none) :: (ka, ListI []) :: (npts, DictI (sk PP w) [] none) :: (rg, DictI (ik PP w) [] none) :: (L, NsI [("self", some (.ref hr)), ("nodes", some (.ref nd)), ("kwargs", some (.ref kd)), ("hash_fn", some (.ref ha)), ("vnodes", some (vi vn)), ("weight_fn", some .none), ("ketama_args", none)]) :: rest))) s :=
    S.pick (ps := [nItem, (hr, _), (hrd, _), (rt, _), (rtd, _), (nodes, _), (dist, _), (ka, _), (npts, _), (rg, _), (L, _)]) H (by walk_at "pick") (by walk_at "sub")
  refine hcf hr hrd rt rtd dist ka npts nodes rg ha vn [] A1 _ s _ _ List.nodup_nil (by simpa using hz) (hA1.le (by decide) (by decide)) (hok _ (by walk_at "sub")) H fun nl b s hcs H => ?_
  have hel := hE nl b hcs
  cases b with
  | false =>
    have hnl := hcs.none hnd rfl
    obtain ⟨rfl, rfl⟩ := hnl
    repeat' walk1
    refine ⟨rfl, hQ ⟨hr, hrd, rt, rtd, dist, npts, nodes, rg, vn⟩ (rs0 ka) s rfl ⟨false, hcs⟩ .nil ⟨good0, List.nodup_nil, List.Perm.nil, List.Pairwise.nil⟩ ?_⟩
    have H : S C ([(hr, InstI 392 hrd), (hrd, DictI (sk PP w) (hrA rt vn .none) none), (rt, InstI 118 rtd), (rtd, DictI (sk PP w) (rtA dist ka npts nodes rg (.ref ha)) none), (dist, DictI (sk PP w) [] none), (ka, ListI []), (npts, DictI (sk PP w) [] none), (nodes, DictI (sk PP w) [] none), (rg, DictI (ik PP w) [] none), nItem] ++ rest) s :=
      S.pick H (by walk_at "pick") (by walk_at "sub")
    exact H
  | true =>
    repeat' walk1
    rename_i nv
    have H := H.perm (List.Perm.append_left [_, _, _, _, _, _, _] (List.perm_append_comm_assoc (nlIts w nl) [_, _, _, _, _] rest))
    simp only [List.cons_append, List.nil_append] at H
    have H : S C ((nodes, DictI (sk PP w) (nlK nl) none) :: (nv, ViewI "dict_items" nodes) :: nItem :: (hr, InstI 392 hrd) :: (hrd, DictI (sk PP w) (hrA rt vn .none) none) :: (rt, InstI 118 rtd) :: (rtd, DictI (sk PP w) (rtA dist ka npts nodes rg (.ref ha)) none) :: (dist, DictI (sk PP w) [] none) :: (ka, ListI []) :: (npts, DictI (sk PP w) [] none) :: (rg, DictI (ik PP w) [] none) :: (nlIts w nl ++ rest)) s :=
      S.pick (ps := [(nodes, _)]) H (by walk_at "pick") (by walk_at "sub")
    obtain ⟨n, H⟩ := H.named
    have H : S C (fixA w rt rtd dist ka npts nodes rg ha [] ⟨[], [], []⟩ ++ ([(nv, ViewI "dict_items" nodes), (nodes, DictI (sk PP w) (nlK nl) (some n))] ++ (ptsIts [] ++ ((hr, InstI 392 hrd) :: (hrd, DictI (sk PP w) (hrA rt vn .none) none) :: nItem :: (nlIts w nl ++ rest))))) s :=
      S.pick (ps := [(rt, _), (rtd, _), (dist, _), (ka, _), (npts, _), (rg, _), (nv, _), (nodes, _), (hr, _), (hrd, _), nItem]) H (by walk_at "pick") (by walk_at "sub")
    refine create_ring w C hB rt rtd dist ka npts nodes rg ha nv [] ⟨[], [], []⟩ hIts h dom hh (elsOf nl) _ _ (itok_items nl n) good0 (fun e he => ?_) (H.sysm (by walk_at "mb")) (H.sysm (by walk_at "mb")) (H.sysm (by walk_at "mb")) (fun e he => ?_) ?_ ?_ ?_ A1 _ s _ _ (hA1.le (by decide) (by decide)) (fun p hp => ?_) (fun e he => ?_) H fun ka' ns m' s hl hpm hso H => ?_
    · obtain ⟨p, hp, rfl⟩ := List.mem_map.mp he
      exact (hel.b p hp).2.2.2.2.2
    · obtain ⟨p, hp, rfl⟩ := List.mem_map.mp he
      exact (hel.b p hp).2.2.2.2.1
    · have := hel.len
      simp [elsOf]; omega
    · have := hel.len
      simp [elsOf]; omega
    · simpa using hel.sum
    · exact .tail _ (.tail _ (.tail _ (List.mem_append_right _ (hr0 p hp))))
    · obtain ⟨p, hp, rfl⟩ := List.mem_map.mp he
      obtain ⟨b1, b2, b3, b4, _⟩ := hel.b p hp
      exact ⟨p.2.2.kvs, .tail _ (.tail _ (.tail _ (List.mem_append_left _ (List.mem_map.mpr ⟨p, hp, rfl⟩)))), cf_v _, cf_wt _, b1, b2, b3, b4⟩
    · repeat' walk1
      refine ⟨rfl, hQ ⟨hr, hrd, rt, rtd, dist, npts, nodes, rg, vn⟩ ⟨m', nl, ka', ns⟩ s rfl ⟨true, hcs⟩ hl ⟨hl.good good0 fun e he => ?_, hcs.nodup (by simp), hpm, hso⟩ ?_⟩
      · obtain ⟨p, hp, rfl⟩ := List.mem_map.mp he
        obtain ⟨b1, b2, b3, b4, _⟩ := hel.b p hp
        have c1 : 1 * 1 ≤ p.2.2.v * p.2.2.wt := Int.mul_le_mul b1 b3 (by decide) (by omega)
        have c2 : p.2.2.v * p.2.2.wt ≤ 1000 * 1000 := Int.mul_le_mul b2 b4 (by omega) (by decide)
        show 1 ≤ (p.2.2.v * p.2.2.wt - 0).toNat ∧ (p.2.2.v * p.2.2.wt - 0).toNat ≤ 1000000
        omega
      · have H : S C ((nodes, DictI (sk PP w) (nlK nl) (some n)) :: (rt, InstI 118 rtd) :: (rtd, DictI (sk PP w) (rtA dist ka' npts nodes rg (.ref ha)) none) :: (dist, DictI (sk PP w) m'.dl none) :: (ka', ListI (ns.map vi)) :: (npts, DictI (sk PP w) (plK m'.pl) none) :: (rg, DictI (ik PP w) m'.rl none) :: (ptsIts m'.pl ++ ((hr, InstI 392 hrd) :: (hrd, DictI (sk PP w) (hrA rt vn .none) none) :: nItem :: (nlIts w nl ++ rest)))) s :=
          S.pick (ps := [(nodes, _)]) H (by walk_at "pick") (by walk_at "sub")
        have H := H.unnamed
        have H := H.perm (List.Perm.append_left [_, _, _, _, _, _, _] (List.perm_append_comm_assoc (ptsIts m'.pl) [_, _, _] (nlIts w nl ++ rest)))
        simp only [List.cons_append, List.nil_append] at H
        have H : S C ([(hr, InstI 392 hrd), (hrd, DictI (sk PP w) (hrA rt vn .none) none), (rt, InstI 118 rtd), (rtd, DictI (sk PP w) (rtA dist ka' npts nodes rg (.ref ha)) none), (dist, DictI (sk PP w) m'.dl none), (ka', ListI (ns.map vi)), (npts, DictI (sk PP w) (plK m'.pl) none), (nodes, DictI (sk PP w) (nlK nl) none), (rg, DictI (ik PP w) m'.rl none), nItem] ++ (ptsIts m'.pl ++ (nlIts w nl ++ rest))) s :=
          S.pick H (by walk_at "pick") (by walk_at "sub")
        refine H.perm ?_
        unfold rgIts
        simp only [List.cons_append, List.nil_append, List.append_assoc]
        iterate 9 refine List.Perm.cons _ ?_
        have hpp := (List.perm_middle (a := nItem) (l₁ := ptsIts m'.pl ++ nlIts w nl) (l₂ := rest)).symm
        simpa [List.append_assoc] using hpp

end Mc

namespace Mc
/-- the property _nodes -/
theorem p_nodes (w : World) (C : Cx) (hB : Bs PP w (hK w.params) gl C) {A : Around} {its : List Item} {s : Shared} {Q E : Value → Shared → Prop} {hr hrd rt rtd dist ka npts nodes rg ha : Addr} {vn : Int} {wf : Value} {expr : Bool} (hA : Rm A 1 10) (H : S C its s) (h1 : (hr, InstI 392 hrd) ∈ its) (h2 : (hrd, DictI (sk PP w) (hrA rt vn wf) none) ∈ its) (h3 : (rt, InstI 118 rtd) ∈ its) (h4 : (rtd, DictI (sk PP w) (rtA dist ka npts nodes rg (.ref ha)) none) ∈ its)
   (hQ : ∀ s', S C its s' → Q (.ref nodes) s') : wpAny (model PP w) A (getAttr (.ref hr) "_nodes" expr) Q E s := by
  refine rc_prop H hB h1 (c390 w) h2 (p := 381) (fget := 380) (by walk_at "mb") fun s tk H => ?_
  have hA' : Rm A.in1 (0 + 1) (6 + 3) := Rm.in1 hA
  refine call_fnL H hB (hB.k H 380 _ rfl) rfl (codeRec_of (hB.k H) (by kernel_rfl)) rfl hA' (BindsTo.of_eq rfl) (by kernel_rfl) (by kernel_rfl) (loc := [("self", some (.ref hr))]) (by kernel_rfl) rfl ?_
  intro L s A1 E1 hA1 H env
  repeat' walk1
  exact handed_on rfl (hQ _ H.tail)
theorem perm_nl {α : Type} {X P N R : List α} : (X ++ (P ++ (N ++ R))).Perm (N ++ (X ++ (P ++ R))) := by
  have h1 : (P ++ (N ++ R)).Perm (N ++ (P ++ R)) := List.perm_append_comm_assoc _ _ _
  exact (h1.append_left X).trans (List.perm_append_comm_assoc _ _ _)
theorem Confs.one {vn : Int} {nl : Nl} {nd : Nd} {nl' : Nl} {b : Bool} (h : Confs vn nl [nd] nl' b) : ∃ a, nl' = nlSet nl nd.name a (confOf vn nd.name nd.nc) ∧ b = chgOf vn nd.name (nlAt nl nd.name) nd.nc := by
  generalize hl : [nd] = l at h
  cases h with
  | nil => cases hl
  | snoc h' =>
    rename_i nds nd' nl1 b1 a
    have h1 := congrArg List.length hl
    simp at h1
    have h2 : nds = [] := h1
    subst h2
    simp at hl
    subst hl
    generalize hz : ([] : List Nd) = z at h'
    cases h' with
    | nil => exact ⟨a, rfl, by simp⟩
    | snoc _ => simp at hz
theorem nlSet_mem {w : World} {nl : Nl} {name : Str} {a : Addr} {c : Cf} : (a, DictI (sk PP w) c.kvs none) ∈ nlIts w (nlSet nl name a c) := by
  unfold nlIts nlSet
  split
  · rename_i h
    obtain ⟨p, hp, e⟩ := List.mem_map.mp (List.contains_iff_mem.mp h)
    exact List.mem_map.mpr ⟨(p.1, a, c), List.mem_map.mpr ⟨p, hp, by rw [if_pos e]⟩, rfl⟩
  · exact List.mem_map.mpr ⟨(name, a, c), by simp, rfl⟩
theorem valueAt_stored {α : Type} [DecidableEq α] (l : List (α × Value)) (k : α) (v : Value) : valueAt (stored l k v) k = some v := by
  unfold stored
  split
  · rename_i h
    induction l with
    | nil => simp at h
    | cons p r ih =>
      unfold valueAt at ih ⊢
      rw [List.map_cons, List.find?_cons]
      by_cases q : p.1 = k
      · rw [if_pos q]; simp [q]
      · rw [if_neg q]
        simp only [q, decide_false]
        refine ih ?_
        rw [List.any_cons, decide_eq_false q, Bool.false_or] at h
        exact h
  · rename_i h
    unfold valueAt
    rw [List.find?_append, List.find?_eq_none.mpr fun p hp e => h (List.any_eq_true.mpr ⟨p, hp, e⟩)]
    simp
theorem NxT.conv2 {prog : Program} {w : World} {C : Cx} {it : Addr} {n n' : Nat} {elt elt' : Nat → List Value → Prop} {P : Nat → Obj → Prop} {need need' : List Item → Prop} (N : NxT prog w C it n elt P need) (hn : n = n') (he : ∀ i us, i < n → elt i us → elt' i us) (hneed : ∀ its, need' its → need its) : NxT prog w C it n' elt' P need' := by
  subst hn
  exact ⟨fun A its s Q E Y elts k pos i hA H hn hi h => N.next A its s Q E Y elts k pos i hA H (hneed _ hn) hi fun v t us s' e => h v t us s' (he _ _ hi e), fun A its s Q E hA H hn h => N.stop A its s Q E hA H (hneed _ hn) h⟩
theorem two_of_er {us : List Value} {name : Str} {a : Addr} (e : us.map er = [.str name 0, .ref a]) : ∃ t, us = [.str name t, .ref a] := by
  cases us with
  | nil => simp at e
  | cons u us =>
    cases us with
    | nil => simp at e
    | cons x us =>
      simp only [List.map_cons, List.cons.injEq, List.map_eq_nil_iff] at e
      obtain ⟨e1, e2, rfl⟩ := e
      obtain ⟨t, rfl⟩ := str_of_er e1
      have := ref_of_er e2
      subst this
      exact ⟨t, rfl⟩
theorem itok_one {w : World} {C : Cx} {nv tp : Addr} (name : Str) (a : Addr) (v wt : Int) : ItOk w C nv [⟨name, a, v, wt⟩] [(nv, ListI [.ref tp]), (tp, TupI [.str name 0, .ref a])] [(nv, ListI [.ref tp]), (tp, TupI [.str name 0, .ref a])] where
  go := fun A its s Q E H hQ => it_list H (.head _) fun it s' hit H' => hQ it s' (ListIt nv) hit
    (NxT.conv2 (nxT_list nv [tp] (fun _ => [.str name 0, .ref a]) hit) rfl (fun i us hi e => by
      obtain ⟨t, rfl⟩ := two_of_er e
      have : i = 0 := by simp at hi; omega
      subst this
      exact ⟨by simp, t, rfl⟩) (fun its h => ⟨h _ (.head _), fun i hi => by
      have : i = 0 := by simp at hi; omega
      subst this
      exact h _ (.tail _ (.head _))⟩)) H'
  back := fun _ _ H => H
theorem Lays.one {h : Str → Int} {m : MS} {e : El} {m' : MS} (hl : Lays h m [e] m') : ∃ a, m' = layF h e.name e.cnt a m := by
  generalize hq : [e] = l at hl
  cases hl with
  | nil => cases hq
  | snoc h' =>
    rename_i es e' a m1
    have h1 := congrArg List.length hq
    simp at h1
    have h2 : es = [] := h1
    subst h2
    simp at hq
    subst hq
    generalize hz : ([] : List El) = z at h'
    cases h' with
    | nil => exact ⟨a, rfl⟩
    | snoc _ => simp at hz
/-- a node comes, or comes again -/
theorem ring_add (w : World) (C : Cx) (hB : Bs PP w (hK w.params) gl C) (fn : Addr) (hfn : fn = 203 ∨ fn = 194) (ha : Addr) (hIts : List Item) (h : Str → Int) (dom : Str → Prop) (hh : HOk w C ha hIts h dom) (r : Rg) (st : RS) (g : StOk st)
   (A : Around) (rest : List Item) (s : Shared) (Q E : Value → Shared → Prop) (name : Str) (t : Tok) (ca : Addr) (row : List (Str × Value)) (hA : Rm A 8 80) (hr0 : ∀ p ∈ hIts, p ∈ rest) (hrow : (Nc.row ca row).ok w rest) (hz : st.nl.length ≤ 800) (hz2 : st.m.dl.length + 1 ≤ 1000) (hz3 : st.m.pl.length + 1 ≤ 1000)
   (c : Cf) (hc : c = confOf r.vn name (.row ca row)) (hb : 1 ≤ c.v ∧ c.v ≤ 1000 ∧ 1 ≤ c.wt ∧ c.wt ≤ 1000) (hn : name.length ≤ 100) (hdom : ∀ k, k < (c.v * c.wt - 0).toNat → dom (keyN name k)) (hsz : st.m.rl.length + (c.v * c.wt - 0).toNat < 64)
   (H : S C (rgIts w ha r st ++ rest) s)
   (hQ1 : ∀ a pa ka ns s', chgOf r.vn name (nlAt st.nl name) (.row ca row) = true → StOk ⟨layF h name (c.v * c.wt - 0).toNat pa st.m, nlSet st.nl name a c, ka, ns⟩ → S C (rgIts w ha r ⟨layF h name (c.v * c.wt - 0).toNat pa st.m, nlSet st.nl name a c, ka, ns⟩ ++ rest) s' → Q .none s')
   (hQ2 : ∀ a s', chgOf r.vn name (nlAt st.nl name) (.row ca row) = false → StOk ⟨st.m, nlSet st.nl name a c, st.ka, st.ns⟩ → S C (rgIts w ha r ⟨st.m, nlSet st.nl name a c, st.ka, st.ns⟩ ++ rest) s' → Q .none s') : wpAny (model PP w) A (call (.ref fn) [.ref r.hr, .str name t, .ref ca]) Q E s := by
  obtain ⟨hr, hrd, rt, rtd, dist, npts, nodes, rg, vn⟩ := r
  obtain ⟨m, nl, ka, ns⟩ := st
  dsimp only at *
  unfold rgIts at H
  dsimp only at H
  simp only [List.cons_append, List.append_assoc] at H
  rcases hfn with rfl | rfl
  · refine wpAny_call ?_
    refine call_fnL H hB (hB.k H 203 _ rfl) rfl (codeRec_of (hB.k H) (by kernel_rfl)) rfl hA (binds_K (hB.k H) rfl (T := 196) rfl rfl rfl rfl) (by kernel_rfl) (by kernel_rfl) (loc := [("self", some (.ref hr)), ("nodename", some (.str name 0)), ("conf", some (.ref ca))]) (by kernel_rfl) rfl ?_
    intro L s A1 E1 hA1 H env
    iterate 17 walk1
    rename_i nd _
    have H : S C ((nd, DictI (sk PP w) [(name, .ref ca)] none) :: (hr, InstI 392 hrd) :: (hrd, DictI (sk PP w) (hrA rt vn .none) none) :: (rt, InstI 118 rtd) :: (rtd, DictI (sk PP w) (rtA dist ka npts nodes rg (.ref ha)) none) :: (nodes, DictI (sk PP w) (nlK nl) none) ::
       (dist, DictI (sk PP w) m.dl none) :: (ka, ListI (ns.map vi)) :: (npts, DictI (sk PP w) (plK m.pl) none) :: (rg, DictI (ik PP w) m.rl none) :: (L, NsI [("self", some (.ref hr)), ("nodename", some (.str name 0)), ("conf", some (.ref ca))]) :: (ptsIts m.pl ++ (nlIts w nl ++ rest))) s :=
      S.pick (ps := [(nd, _), (hr, _), (hrd, _), (rt, _), (rtd, _), (nodes, _), (dist, _), (ka, _), (npts, _), (rg, _), (L, _)]) H (by walk_at "pick") (by walk_at "sub")
    have H := H.perm (List.Perm.append_left [_, _, _, _, _, _] (perm_nl (X := [_, _, _, _, _]) (P := ptsIts m.pl) (N := nlIts w nl) (R := rest)))
    refine confC_dict hB [⟨name, .row ca row⟩] nd (by simp) hr hrd rt rtd dist ka npts nodes rg ha vn nl A1 _ s _ _ g.nd (by simp; omega) (hA1.le (by decide) (by decide)) (fun e he => ?_) H fun nl' b s hcs H => ?_
    · rw [List.mem_singleton] at he
      subst he
      exact ⟨List.mem_append_right _ (List.mem_append_right _ hrow.1), hrow.2⟩
    obtain ⟨a, rfl, rfl⟩ := hcs.one
    rw [← hc] at H
    have hmc : (a, DictI (sk PP w) c.kvs none) ∈ nlIts w (nlSet nl name a c) := nlSet_mem
    obtain ⟨bq, hbq⟩ : ∃ bq, chgOf vn name (nlAt nl name) (.row ca row) = bq := ⟨_, rfl⟩
    rw [show chgOf vn (Nd.name ⟨name, .row ca row⟩) (nlAt nl (Nd.name ⟨name, .row ca row⟩)) (Nd.nc ⟨name, .row ca row⟩) = bq from hbq]
    have gn : ((nlSet nl name a c).map (·.1)).Nodup := nlSet_nodup g.nd
    cases bq with
    | false =>
      repeat' walk1
      have H := H.perm (List.Perm.append_left [_, _, _, _, _, _] (perm_nl (X := [_, _, _, _, _]) (P := ptsIts m.pl) (N := nlIts w (nlSet nl name a c)) (R := rest)).symm)
      simp only [List.cons_append, List.nil_append] at H
      refine hQ2 a s hbq ⟨g.g, gn, g.pm, g.so⟩ ?_
      unfold rgIts
      simp only [List.cons_append, List.append_assoc]
      exact S.pick (ps := [(hr, _), (hrd, _), (rt, _), (rtd, _), (dist, _), (ka, _), (npts, _), (nodes, _), (rg, _)]) H (by walk_at "pick") (by walk_at "sub")
    | true =>
      have hv : valueAt (nlK (nlSet nl name a c)) name = some (.ref a) := by rw [nlK_set]; exact valueAt_stored _ _ _
      repeat' walk1
      rename_i tp nv
      have H := H.perm (List.Perm.append_left [_, _, _, _, _, _, _, _] (perm_nl (X := [_, _, _, _, _]) (P := ptsIts m.pl) (N := nlIts w (nlSet nl name a c)) (R := rest)).symm)
      simp only [List.cons_append, List.nil_append] at H
      have H : S C (fixA w rt rtd dist ka npts nodes rg ha (ns.map vi) m ++ ([(nv, ListI [.ref tp]), (tp, TupI [.str name 0, .ref a])] ++ (ptsIts m.pl ++ (nlIts w (nlSet nl name a c) ++ ((hr, InstI 392 hrd) :: (hrd, DictI (sk PP w) (hrA rt vn .none) none) :: (nodes, DictI (sk PP w) (nlK (nlSet nl name a c)) none) :: rest))))) s := by
        have H : S C ([(rt, InstI 118 rtd), (rtd, DictI (sk PP w) (rtA dist ka npts nodes rg (.ref ha)) none), (dist, DictI (sk PP w) m.dl none), (ka, ListI (ns.map vi)), (npts, DictI (sk PP w) (plK m.pl) none), (rg, DictI (ik PP w) m.rl none), (nv, ListI [.ref tp]), (tp, TupI [.str name 0, .ref a])] ++ ([(hr, InstI 392 hrd), (hrd, DictI (sk PP w) (hrA rt vn .none) none), (nodes, DictI (sk PP w) (nlK (nlSet nl name a c)) none)] ++ (ptsIts m.pl ++ (nlIts w (nlSet nl name a c) ++ rest)))) s :=
          S.pick (ps := [(rt, _), (rtd, _), (dist, _), (ka, _), (npts, _), (rg, _), (nv, _), (tp, _), (hr, _), (hrd, _), (nodes, _)]) H (by walk_at "pick") (by walk_at "sub")
        refine H.perm (List.Perm.append_left [_, _, _, _, _, _, _, _] ?_)
        exact (List.perm_append_comm_assoc _ _ _).trans (List.Perm.append_left _ (List.perm_append_comm_assoc _ _ _))
      refine create_ring w C hB rt rtd dist ka npts nodes rg ha nv _ m hIts h dom hh [⟨name, a, c.v, c.wt⟩] _ _ (itok_one name a c.v c.wt) g.g (fun e he => ?_) (H.sysm (by walk_at "mb")) (H.sysm (by walk_at "mb")) (H.sysm (by walk_at "mb")) (fun e he => ?_) (by simpa using hz2) (by simpa using hz3) (by simpa [El.cnt] using hsz) A1 _ s _ _ (hA1.le (by decide) (by decide)) (fun p hp => ?_) (fun e he => ?_) H fun ka' ns' m' s hl hpm hso H => ?_
      · rw [List.mem_singleton] at he
        subst he
        exact hdom
      · rw [List.mem_singleton] at he
        subst he
        exact hn
      · exact List.mem_append_right _ (.tail _ (.tail _ (.tail _ (hr0 p hp))))
      · rw [List.mem_singleton] at he
        subst he
        exact ⟨c.kvs, List.mem_append_left _ hmc, cf_v _, cf_wt _, hb.1, hb.2.1, hb.2.2.1, hb.2.2.2⟩
      · obtain ⟨pa, rfl⟩ := hl.one
        repeat' walk1
        refine hQ1 a pa ka' ns' s hbq ⟨g.g.layF ?_, gn, hpm, hso⟩ ?_
        · have c1 : 1 * 1 ≤ c.v * c.wt := Int.mul_le_mul hb.1 hb.2.2.1 (by decide) (by omega)
          have c2 : c.v * c.wt ≤ 1000 * 1000 := Int.mul_le_mul hb.2.1 hb.2.2.2 (by omega) (by decide)
          omega
        · unfold rgIts
          simp only [List.cons_append, List.append_assoc]
          have H : S C ([(rt, InstI 118 rtd), (rtd, DictI (sk PP w) (rtA dist ka' npts nodes rg (.ref ha)) none), (dist, DictI (sk PP w) (layF h name (c.v * c.wt - 0).toNat pa m).dl none), (ka', ListI (ns'.map vi)), (npts, DictI (sk PP w) (plK (layF h name (c.v * c.wt - 0).toNat pa m).pl) none), (rg, DictI (ik PP w) (layF h name (c.v * c.wt - 0).toNat pa m).rl none)] ++ (ptsIts (layF h name (c.v * c.wt - 0).toNat pa m).pl ++ (nlIts w (nlSet nl name a c) ++ ([(hr, InstI 392 hrd), (hrd, DictI (sk PP w) (hrA rt vn .none) none), (nodes, DictI (sk PP w) (nlK (nlSet nl name a c)) none)] ++ rest)))) s :=
            S.mono H (List.Sublist.append_left (List.sublist_append_right _ _) _)
          have H := H.perm (List.Perm.append_left [_, _, _, _, _, _] ((List.Perm.append_left (ptsIts (layF h name (c.v * c.wt - 0).toNat pa m).pl) (List.perm_append_comm_assoc (nlIts w (nlSet nl name a c)) [_, _, _] rest)).trans (List.perm_append_comm_assoc _ [_, _, _] _)))
          simp only [List.cons_append, List.nil_append] at H
          exact S.pick (ps := [(hr, _), (hrd, _), (rt, _), (rtd, _), (dist, _), (ka', _), (npts, _), (nodes, _), (rg, _)]) H (by walk_at "pick") (by walk_at "sub")
  · refine wpAny_call ?_
    refine call_fnL H hB (hB.k H 194 _ rfl) rfl (codeRec_of (hB.k H) (by kernel_rfl)) rfl hA (binds_K (hB.k H) rfl (T := 187) rfl rfl rfl rfl) (by kernel_rfl) (by kernel_rfl) (loc := [("self", some (.ref hr)), ("nodename", some (.str name 0)), ("conf", some (.ref ca))]) (by kernel_rfl) rfl ?_
    intro L s A1 E1 hA1 H env
    iterate 17 walk1
    rename_i nd _
    have H : S C ((nd, DictI (sk PP w) [(name, .ref ca)] none) :: (hr, InstI 392 hrd) :: (hrd, DictI (sk PP w) (hrA rt vn .none) none) :: (rt, InstI 118 rtd) :: (rtd, DictI (sk PP w) (rtA dist ka npts nodes rg (.ref ha)) none) :: (nodes, DictI (sk PP w) (nlK nl) none) ::
       (dist, DictI (sk PP w) m.dl none) :: (ka, ListI (ns.map vi)) :: (npts, DictI (sk PP w) (plK m.pl) none) :: (rg, DictI (ik PP w) m.rl none) :: (L, NsI [("self", some (.ref hr)), ("nodename", some (.str name 0)), ("conf", some (.ref ca))]) :: (ptsIts m.pl ++ (nlIts w nl ++ rest))) s :=
      S.pick (ps := [(nd, _), (hr, _), (hrd, _), (rt, _), (rtd, _), (nodes, _), (dist, _), (ka, _), (npts, _), (rg, _), (L, _)]) H (by walk_at "pick") (by walk_at "sub")
    have H := H.perm (List.Perm.append_left [_, _, _, _, _, _] (perm_nl (X := [_, _, _, _, _]) (P := ptsIts m.pl) (N := nlIts w nl) (R := rest)))
    refine confC_dict hB [⟨name, .row ca row⟩] nd (by simp) hr hrd rt rtd dist ka npts nodes rg ha vn nl A1 _ s _ _ g.nd (by simp; omega) (hA1.le (by decide) (by decide)) (fun e he => ?_) H fun nl' b s hcs H => ?_
    · rw [List.mem_singleton] at he
      subst he
      exact ⟨List.mem_append_right _ (List.mem_append_right _ hrow.1), hrow.2⟩
    obtain ⟨a, rfl, rfl⟩ := hcs.one
    rw [← hc] at H
    have hmc : (a, DictI (sk PP w) c.kvs none) ∈ nlIts w (nlSet nl name a c) := nlSet_mem
    obtain ⟨bq, hbq⟩ : ∃ bq, chgOf vn name (nlAt nl name) (.row ca row) = bq := ⟨_, rfl⟩
    rw [show chgOf vn (Nd.name ⟨name, .row ca row⟩) (nlAt nl (Nd.name ⟨name, .row ca row⟩)) (Nd.nc ⟨name, .row ca row⟩) = bq from hbq]
    have gn : ((nlSet nl name a c).map (·.1)).Nodup := nlSet_nodup g.nd
    cases bq with
    | false =>
      repeat' walk1
      have H := H.perm (List.Perm.append_left [_, _, _, _, _, _] (perm_nl (X := [_, _, _, _, _]) (P := ptsIts m.pl) (N := nlIts w (nlSet nl name a c)) (R := rest)).symm)
      simp only [List.cons_append, List.nil_append] at H
      refine hQ2 a s hbq ⟨g.g, gn, g.pm, g.so⟩ ?_
      unfold rgIts
      simp only [List.cons_append, List.append_assoc]
      exact S.pick (ps := [(hr, _), (hrd, _), (rt, _), (rtd, _), (dist, _), (ka, _), (npts, _), (nodes, _), (rg, _)]) H (by walk_at "pick") (by walk_at "sub")
    | true =>
      have hv : valueAt (nlK (nlSet nl name a c)) name = some (.ref a) := by rw [nlK_set]; exact valueAt_stored _ _ _
      repeat' walk1
      rename_i tp nv
      have H := H.perm (List.Perm.append_left [_, _, _, _, _, _, _, _] (perm_nl (X := [_, _, _, _, _]) (P := ptsIts m.pl) (N := nlIts w (nlSet nl name a c)) (R := rest)).symm)
      simp only [List.cons_append, List.nil_append] at H
      have H : S C (fixA w rt rtd dist ka npts nodes rg ha (ns.map vi) m ++ ([(nv, ListI [.ref tp]), (tp, TupI [.str name 0, .ref a])] ++ (ptsIts m.pl ++ (nlIts w (nlSet nl name a c) ++ ((hr, InstI 392 hrd) :: (hrd, DictI (sk PP w) (hrA rt vn .none) none) :: (nodes, DictI (sk PP w) (nlK (nlSet nl name a c)) none) :: rest))))) s := by
        have H : S C ([(rt, InstI 118 rtd), (rtd, DictI (sk PP w) (rtA dist ka npts nodes rg (.ref ha)) none), (dist, DictI (sk PP w) m.dl none), (ka, ListI (ns.map vi)), (npts, DictI (sk PP w) (plK m.pl) none), (rg, DictI (ik PP w) m.rl none), (nv, ListI [.ref tp]), (tp, TupI [.str name 0, .ref a])] ++ ([(hr, InstI 392 hrd), (hrd, DictI (sk PP w) (hrA rt vn .none) none), (nodes, DictI (sk PP w) (nlK (nlSet nl name a c)) none)] ++ (ptsIts m.pl ++ (nlIts w (nlSet nl name a c) ++ rest)))) s :=
          S.pick (ps := [(rt, _), (rtd, _), (dist, _), (ka, _), (npts, _), (rg, _), (nv, _), (tp, _), (hr, _), (hrd, _), (nodes, _)]) H (by walk_at "pick") (by walk_at "sub")
        refine H.perm (List.Perm.append_left [_, _, _, _, _, _, _, _] ?_)
        exact (List.perm_append_comm_assoc _ _ _).trans (List.Perm.append_left _ (List.perm_append_comm_assoc _ _ _))
      refine create_ring w C hB rt rtd dist ka npts nodes rg ha nv _ m hIts h dom hh [⟨name, a, c.v, c.wt⟩] _ _ (itok_one name a c.v c.wt) g.g (fun e he => ?_) (H.sysm (by walk_at "mb")) (H.sysm (by walk_at "mb")) (H.sysm (by walk_at "mb")) (fun e he => ?_) (by simpa using hz2) (by simpa using hz3) (by simpa [El.cnt] using hsz) A1 _ s _ _ (hA1.le (by decide) (by decide)) (fun p hp => ?_) (fun e he => ?_) H fun ka' ns' m' s hl hpm hso H => ?_
      · rw [List.mem_singleton] at he
        subst he
        exact hdom
      · rw [List.mem_singleton] at he
        subst he
        exact hn
      · exact List.mem_append_right _ (.tail _ (.tail _ (.tail _ (hr0 p hp))))
      · rw [List.mem_singleton] at he
        subst he
        exact ⟨c.kvs, List.mem_append_left _ hmc, cf_v _, cf_wt _, hb.1, hb.2.1, hb.2.2.1, hb.2.2.2⟩
      · obtain ⟨pa, rfl⟩ := hl.one
        repeat' walk1
        refine hQ1 a pa ka' ns' s hbq ⟨g.g.layF ?_, gn, hpm, hso⟩ ?_
        · have c1 : 1 * 1 ≤ c.v * c.wt := Int.mul_le_mul hb.1 hb.2.2.1 (by decide) (by omega)
          have c2 : c.v * c.wt ≤ 1000 * 1000 := Int.mul_le_mul hb.2.1 hb.2.2.2 (by omega) (by decide)
          omega
        · unfold rgIts
          simp only [List.cons_append, List.append_assoc]
          have H : S C ([(rt, InstI 118 rtd), (rtd, DictI (sk PP w) (rtA dist ka' npts nodes rg (.ref ha)) none), (dist, DictI (sk PP w) (layF h name (c.v * c.wt - 0).toNat pa m).dl none), (ka', ListI (ns'.map vi)), (npts, DictI (sk PP w) (plK (layF h name (c.v * c.wt - 0).toNat pa m).pl) none), (rg, DictI (ik PP w) (layF h name (c.v * c.wt - 0).toNat pa m).rl none)] ++ (ptsIts (layF h name (c.v * c.wt - 0).toNat pa m).pl ++ (nlIts w (nlSet nl name a c) ++ ([(hr, InstI 392 hrd), (hrd, DictI (sk PP w) (hrA rt vn .none) none), (nodes, DictI (sk PP w) (nlK (nlSet nl name a c)) none)] ++ rest)))) s :=
            S.mono H (List.Sublist.append_left (List.sublist_append_right _ _) _)
          have H := H.perm (List.Perm.append_left [_, _, _, _, _, _] ((List.Perm.append_left (ptsIts (layF h name (c.v * c.wt - 0).toNat pa m).pl) (List.perm_append_comm_assoc (nlIts w (nlSet nl name a c)) [_, _, _] rest)).trans (List.perm_append_comm_assoc _ [_, _, _] _)))
          simp only [List.cons_append, List.nil_append] at H
          exact S.pick (ps := [(hr, _), (hrd, _), (rt, _), (rtd, _), (dist, _), (ka', _), (npts, _), (nodes, _), (rg, _)]) H (by walk_at "pick") (by walk_at "sub")

end Mc

namespace Mc
noncomputable def nlW (nl : Nl) (name : Str) : Nl := nl.filter fun p => decide (p.1 ≠ name)
theorem nlK_without {nl : Nl} {name : Str} : without (nlK nl) name = nlK (nlW nl name) := by unfold nlK nlW without; rw [List.filter_map]; rfl
theorem nlW_sub {w : World} {nl : Nl} {name : Str} : (nlIts w (nlW nl name)).Sublist (nlIts w nl) := by unfold nlIts nlW; exact List.filter_sublist.map _
/-- a node goes -/
noncomputable def rmF (name : Str) (m : MS) : MS := ⟨without m.dl name, plW m.pl name, (olds m.pl name).foldl (dropP name) m.rl⟩
theorem Good.rm {name : Str} {m : MS} (g : Good m) : Good (rmF name m) := by
  have hk : ∀ n, n ∈ (plW m.pl name).map (·.1) ↔ n ∈ m.pl.map (·.1) ∧ n ≠ name := fun n => by
    have := without_keys (l := plK m.pl) (k := name) (j := n)
    rw [plK_without, plK_keys, plK_keys] at this
    exact this
  refine ⟨g.nd.sublist (List.filter_sublist.map _), fun n hn => ?_, fun p hp => g.ne p (List.mem_filter.mp hp).1, Strs.dropPs g.st, fun n hn => ?_, fun p hp => g.sh p (List.mem_filter.mp hp).1⟩
  · have := without_keys.mp hn
    exact (hk n).mpr ⟨g.sub n this.1, this.2⟩
  · obtain ⟨h1, h2⟩ := (hk n).mp hn
    obtain ⟨c, hc⟩ := g.has n h1
    exact ⟨c, by show valueAt (without m.dl name) n = _; rw [valueAt_without h2]; exact hc⟩
theorem ring_rm (w : World) (C : Cx) (hB : Bs PP w (hK w.params) gl C) (ha : Addr) (r : Rg) (st : RS) (g : StOk st)
   (A : Around) (rest : List Item) (s : Shared) (Q E : Value → Shared → Prop) (name : Str) (t : Tok) (hA : Rm A 3 30) (hn : name ∈ st.nl.map (·.1)) (hp : name ∈ st.m.pl.map (·.1)) (hz : st.nl.length ≤ 800) (hz2 : st.m.dl.length ≤ 900) (hz3 : st.m.pl.length ≤ 900) (hz4 : st.m.rl.length < 64)
   (H : S C (rgIts w ha r st ++ rest) s)
   (hQ : ∀ ka ns s', StOk ⟨rmF name st.m, nlW st.nl name, ka, ns⟩ → S C (rgIts w ha r ⟨rmF name st.m, nlW st.nl name, ka, ns⟩ ++ rest) s' → Q .none s') : wpAny (model PP w) A (call (.ref 171) [.ref r.hr, .str name t]) Q E s := by
  obtain ⟨hr, hrd, rt, rtd, dist, npts, nodes, rg, vn⟩ := r
  obtain ⟨m, nl, ka, ns⟩ := st
  dsimp only at *
  unfold rgIts at H
  dsimp only at H
  simp only [List.cons_append, List.append_assoc] at H
  refine wpAny_call ?_
  refine call_fnL H hB (hB.k H 171 _ rfl) rfl (codeRec_of (hB.k H) (by kernel_rfl)) rfl hA (BindsTo.of_eq rfl) (by kernel_rfl) (by kernel_rfl) (loc := [("self", some (.ref hr)), ("nodename", some (.str name 0))]) (by kernel_rfl) rfl ?_
  intro L s A1 E1 hA1 H env
  repeat' walk1
  obtain ⟨l1, l2, a0, c0, el, h1, h2⟩ := nl_split hn g.nd
  obtain ⟨⟨n', l, ps⟩, h3, h4⟩ := List.mem_map.mp hp
  obtain ⟨p1, p2, h5⟩ := List.append_of_mem h3
  have h4 : n' = name := h4
  subst h4
  have gnd := g.g.nd
  dsimp only at el h5 gnd
  have e1 : plW m.pl n' = p1 ++ p2 := by rw [h5]; exact plW_mid (by rw [← h5]; exact gnd)
  have e2 : olds m.pl n' = ps := by rw [h5]; exact olds_mid (by rw [← h5]; exact gnd)
  have e3 : valueAt (plK m.pl) n' = some (.ref l) := by rw [h5]; exact plK_at (by rw [← h5]; exact gnd)
  have e5 : valueAt (nlK nl) n' = some (.ref a0) := by rw [el]; exact nlK_mid h1
  obtain ⟨X, e4⟩ := g.g.has n' hp
  have H : S C ([(rt, InstI 118 rtd), (rtd, DictI (sk PP w) (rtA dist ka npts nodes rg (.ref ha)) none), (dist, DictI (sk PP w) m.dl none), (ka, ListI (ns.map vi)), (npts, DictI (sk PP w) (plK m.pl) none), (nodes, DictI (sk PP w) (nlK nl) none), (rg, DictI (ik PP w) m.rl none), (l, ListI (ps.map vi))] ++ ((hr, InstI 392 hrd) :: (hrd, DictI (sk PP w) (hrA rt vn .none) none) :: (ptsIts (p1 ++ p2) ++ (nlIts w nl ++ rest)))) s := by
    rw [h5] at H
    have hpp := pts_perm (pl1 := p1) (pl2 := p2) (name := n') (l := l) (ps := ps) (A := []) (N := []) (R := nlIts w nl ++ rest)
    simp only [List.nil_append] at hpp
    have H := H.perm (List.Perm.append_left [_, _, _, _, _, _, _, _, _, _] hpp)
    simp only [List.cons_append, List.nil_append] at H
    have e6 : plK (p1 ++ (n', l, ps) :: p2) = plK m.pl := by rw [h5]
    rw [e6] at H
    exact S.pick (ps := [(rt, _), (rtd, _), (dist, _), (ka, _), (npts, _), (nodes, _), (rg, _), (l, _), (hr, _), (hrd, _)]) H (by walk_at "pick") (by walk_at "sub")
  refine rm w C hB rt rtd dist ka npts nodes rg l m.dl (nlK nl) (plK m.pl) m.rl (ns.map vi) ps n' _ a0 (.ref ha) e5 e3 X e4 (H.sysm (by walk_at "mb")) (H.sysm (by walk_at "mb")) (by unfold nlK; rw [List.length_map]; omega) (by rw [plK_len]; omega) (by omega) hz4 g.g.st A1 _ s _ _ (hA1.le (by decide) (by decide)) H fun v P' s ⟨ev, ka', ns', hpm, hso, eP⟩ H => ?_
  subst ev eP
  rw [plK_without, nlK_without] at H
  repeat' walk1
  have gr := g.g.rm (name := n')
  have hst : StOk ⟨rmF n' m, nlW nl n', ka', ns'⟩ := ⟨gr, g.nd.sublist (List.filter_sublist.map _), by show ns'.Perm (((olds m.pl n').foldl (dropP n') m.rl).map (·.1)); rw [e2]; exact hpm, hso⟩
  refine hQ ka' ns' s hst ?_
  unfold rgIts rmF
  dsimp only
  rw [e1, e2]
  simp only [List.cons_append, List.append_assoc]
  have H : S C ([(hr, InstI 392 hrd), (hrd, DictI (sk PP w) (hrA rt vn .none) none), (rt, InstI 118 rtd), (rtd, DictI (sk PP w) (rtA dist ka' npts nodes rg (.ref ha)) none), (dist, DictI (sk PP w) (without m.dl n') none), (ka', ListI (ns'.map vi)), (npts, DictI (sk PP w) (plK (plW m.pl n')) none), (nodes, DictI (sk PP w) (nlK (nlW nl n')) none), (rg, DictI (ik PP w) (ps.foldl (dropP n') m.rl) none)] ++ (ptsIts (p1 ++ p2) ++ (nlIts w nl ++ rest))) s :=
    S.pick H (by walk_at "pick") (by walk_at "sub")
  rw [e1] at H
  exact S.mono H (List.Sublist.append_left (List.Sublist.append_left (nlW_sub.append_right _) _) [_, _, _, _, _, _, _, _, _])

end Mc

namespace Mc
/-- the frame of range -/
noncomputable abbrev frR (slf key sz un al pos nn i : Option Value) : List (Str × Option Value) := [("self", slf), ("key", key), ("size", sz), ("unique", un), ("all_nodes", al), ("pos", pos), ("nodename", nn), ("i", i)]
noncomputable abbrev rfd (nm : Str) (ps : Arguments) (body : List Stmt) (sc : Scope) : FuncData := ⟨nm, "HashRing.range", ps, .stmts body, sc, 3, [], .ref 303, .none, .none, .str "uhashring.ring" 362, .none, .ref 309, .none, 0⟩
noncomputable abbrev AllP (w : World) (u : Bool) (all : List Str) : Obj → Prop := match u with
  | true => SetI PP w all
  | false => ListI (all.map vs)
noncomputable def szV : Option Int → Value
  | none => .none
  | some z => vi z
/-- the size in the walk -/
noncomputable def szF (u : Bool) (sz : Option Int) (n : Nat) : Option Int := match u, sz with
  | true, none => some (n : Int)
  | _, sz => sz
/-- the text of range -/
structure RgP where
  nm : Str
  ps : Arguments
  sc : Scope
  h0 : Stmt
  h1 : Stmt
  h2 : Stmt
  kp : Pos
  it1 : PySem.Expr
  a0 : Stmt
  a1 : Stmt
  ye : PySem.Expr
  yp : Pos
  yq : Pos
  t1 : PySem.Expr
  bp : Pos
  ip : Pos
  p1 : Pos
  p2 : Pos
  k : Nat
  tp : Pos
  it2 : PySem.Expr
  t2 : PySem.Expr
  c0 : Stmt
  c1 : Stmt
  ye2 : PySem.Expr
  yp2 : Pos
  yq2 : Pos
  t3 : PySem.Expr
  bp2 : Pos
  ip2 : Pos
  fp2 : Pos
  cp : Pos
  fp : Pos
noncomputable abbrev RgP.b1 (T : RgP) : List Stmt := [T.a0, T.a1, .Expr (.Yield (some T.ye) T.yp) T.yq, .If T.t1 [.Break T.bp] [] T.ip]
noncomputable abbrev RgP.b2 (T : RgP) : List Stmt := [T.c0, T.c1, .Expr (.Yield (some T.ye2) T.yp2) T.yq2, .If T.t3 [.Break T.bp2] [] T.ip2]
noncomputable abbrev RgP.o1 (T : RgP) : List Stmt := [.For (.Tuple [.Name "i" T.p1, .Name "key" T.p2] T.k T.tp) T.it2 [.If T.t2 T.b2 [] T.cp] [] T.fp2]
noncomputable abbrev RgP.body (T : RgP) : List Stmt := [T.h0, T.h1, T.h2, .For (.Name "key" T.kp) T.it1 T.b1 T.o1 T.fp]
noncomputable def rgT : RgP := (fun (T : RgP) (ds : List PySem.Expr) (rt : Option PySem.Expr) (tpp : List TypeParam) (ts : Option Scope) (bd : Str) (pos : Pos) (_ : f2 8 23 = .FunctionDef T.nm T.ps T.body ds rt tpp T.sc ts bd pos) => T) ⟨_, _, _, _, _, _, _, _, _, _, _, _, _, _, _, _, _, _, _, _, _, _, _, _, _, _, _, _, _, _, _, _, _⟩ _ _ _ _ _ _ rfl
noncomputable def RgP.Ok (T : RgP) : Prop := T = rgT
noncomputable abbrev RgP.env (T : RgP) (L : Addr) : Env := callEnv (rfd T.nm T.ps T.body T.sc) L 310
theorem rg_ex : ∃ T : RgP, T.Ok := ⟨rgT, rfl⟩

end Mc

namespace Mc

/-- what range and its loops read -/
structure RgIn (w : World) (hr hrd rt rtd dist ka npts nodes rg ha : Addr) (vn : Int) (ns : List Int) (rl : List (Int × Value)) (nl : Nl) (its : List Item) : Prop where
  h1 : (hr, InstI 392 hrd) ∈ its
  h2 : (hrd, DictI (sk PP w) (hrA rt vn .none) none) ∈ its
  h3 : (rt, InstI 118 rtd) ∈ its
  h4 : (rtd, DictI (sk PP w) (rtA dist ka npts nodes rg (.ref ha)) none) ∈ its
  h5 : (ka, ListI (ns.map vi)) ∈ its
  h6 : (nodes, DictI (sk PP w) (nlK nl) none) ∈ its
  h7 : (rg, DictI (ik PP w) rl none) ∈ its
theorem K0 (w : World) (C : Cx) (hB : Bs PP w (hK w.params) gl C) (T : RgP) (hT : T.Ok) (L hr hrd rt rtd dist ka npts nodes rg ha : Addr) (vn : Int) (hIts : List Item) (h : Str → Int) (dom : Str → Prop) (hh : HOk w C ha hIts h dom) (g : Int → Int) (hk : HKey w C ha hIts g)
   (ns : List Int) (hs : ns.Pairwise (· ≤ ·)) (hz : ns.length < 64) (rl : List (Int × Value)) (nl : Nl) (hzn : nl.length ≤ 900)
   (A : Around) (its : List Item) (s : Shared) (Q : Flow → Shared → Prop) (E : Value → Shared → Prop) (key : Int) (sz : Option Int) (hsz : ∀ z, sz = some z → 1 ≤ z) (u : Bool) (hA : Rm A 7 70) (hi : ∀ p ∈ hIts, p ∈ its) (hR : RgIn w hr hrd rt rtd dist ka npts nodes rg ha vn ns rl nl its)
   (H : S C ((L, NsI (frR (some (.ref hr)) (some (vi key)) (some (szV sz)) (some (.bool u)) none none none none)) :: its) s)
   (hQ : ∀ al s', S C ((al, AllP w u []) :: (L, NsI (frR (some (.ref hr)) (some (vi key)) (some (szV (szF u sz nl.length))) (some (.bool u)) (some (.ref al)) (some (vi (posOf ns (g key) : Nat))) none none)) :: its) s' → Q .next s') :
   wpAny (model PP w) A (execs [T.h0, T.h1, T.h2] (T.env L)) Q E s := by
  obtain rfl := hT
  dsimp only [rgT]
  have hA1 := hA
  obtain ⟨g1, g2, g3, g4, g5, g6, g7⟩ := hR
  refine (show (let env : Env := RgP.env _ L; wpAny (model PP w) A (execs (_ :: _) env) Q E s) from ?_)
  intro env
  have hi2 : ∀ {q r : Item} , ∀ p ∈ hIts, p ∈ q :: r :: its := fun p hp => .tail _ (.tail _ (hi p hp))
  have hnl : (nlK nl).length = nl.length := by unfold nlK; rw [List.length_map]
  cases u with
  | true =>
    cases sz with
    | none =>
      simp only [szV] at H
      repeat' walk1
      refine get_pos w C hB hr hrd rt rtd dist ka npts nodes rg ha vn .none hIts h dom hh g hk ns hs hz _ _ _ _ _ key _ (hA1.le (by decide) (by decide)) (by walk_at "st") hi2 (by walk_at "mb") (by walk_at "mb") (by walk_at "mb") (by walk_at "mb") (by walk_at "mb") fun t' s H => ?_
      repeat' walk1
      rw [hnl] at H
      exact hQ _ _ H
    | some z =>
      have hz0 := hsz z rfl
      have hz1 : (z != 0) = true := by simpa using (by omega : z ≠ 0)
      simp only [szV] at H
      repeat' walk1
      refine get_pos w C hB hr hrd rt rtd dist ka npts nodes rg ha vn .none hIts h dom hh g hk ns hs hz _ _ _ _ _ key _ (hA1.le (by decide) (by decide)) (by walk_at "st") hi2 (by walk_at "mb") (by walk_at "mb") (by walk_at "mb") (by walk_at "mb") (by walk_at "mb") fun t' s H => ?_
      repeat' walk1
      exact hQ _ _ H
  | false =>
    have hi2 : ∀ {q r t : Item} , ∀ p ∈ hIts, p ∈ q :: r :: t :: its := fun p hp => .tail _ (hi2 p hp)
    repeat' walk1
    refine get_pos w C hB hr hrd rt rtd dist ka npts nodes rg ha vn .none hIts h dom hh g hk ns hs hz _ _ _ _ _ key _ (hA1.le (by decide) (by decide)) (by walk_at "st") hi2 (by walk_at "mb") (by walk_at "mb") (by walk_at "mb") (by walk_at "mb") (by walk_at "mb") fun t' s H => ?_
    repeat' walk1
    cases sz with
    | none => exact hQ _ _ (H.mono (by walk_at "sub"))
    | some z => exact hQ _ _ (H.mono (by walk_at "sub"))
theorem K1 (w : World) (C : Cx) (hB : Bs PP w (hK w.params) gl C) (T : RgP) (hT : T.Ok) (L hr hrd rt rtd dist ka npts nodes rg ha : Addr) (vn : Int) (ns : List Int) (hz : ns.length < 64) (rl : List (Int × Value)) (nl : Nl) (A : Around) (its : List Item) (s : Shared) (Q E : Value → Shared → Prop) (al : Addr) (p : Nat) (sv : Option Int) (u : Bool) (kv nv iv : Option Value) (hA : Rm A 7 70) (hR : RgIn w hr hrd rt rtd dist ka npts nodes rg ha vn ns rl nl its)
   (H : S C ((L, NsI (frR (some (.ref hr)) kv (some (szV sv)) (some (.bool u)) (some (.ref al)) (some (vi p)) nv iv)) :: its) s) (hQ : ∀ sl s', S C ((sl, ListI ((ns.drop p).map vi)) :: (L, NsI (frR (some (.ref hr)) kv (some (szV sv)) (some (.bool u)) (some (.ref al)) (some (vi p)) nv iv)) :: its) s' → Q (.ref sl) s') :
   wpAny (model PP w) A (eval T.it1 (T.env L)) Q E s := by
  obtain rfl := hT
  dsimp only [rgT]
  have hA1 := hA
  obtain ⟨g1, g2, g3, g4, g5, g6, g7⟩ := hR
  refine (show (let env : Env := RgP.env _ L; wpAny (model PP w) A (eval _ env) Q E s) from ?_)
  intro env
  repeat' walk1
  refine r_slice_from3 (by with_reducible exact H) (by walk_at "mb") (by rw [List.length_map]; omega) rfl rfl (by with_unfolding_all rfl) fun sl s H => ?_
  rw [← List.map_drop] at H
  exact hQ _ _ H
theorem F1 (w : World) (C : Cx) (hB : Bs PP w (hK w.params) gl C) (T : RgP) (hT : T.Ok) (L hr hrd rt rtd dist ka npts nodes rg ha : Addr) (vn : Int) : ∀ x, foldedSetIterable T.it1 (T.env L) x = pure x := by
  obtain rfl := hT
  dsimp only [rgT]
  intro x
  rfl
theorem K2 (w : World) (C : Cx) (hB : Bs PP w (hK w.params) gl C) (T : RgP) (hT : T.Ok) (L hr hrd rt rtd dist ka npts nodes rg ha : Addr) (vn : Int) (ns : List Int) (rl : List (Int × Value)) (nl : Nl) (A : Around) (its : List Item) (s : Shared) (Q : Flow → Shared → Prop) (E : Value → Shared → Prop) (al : Addr) (p : Nat) (sv : Option Int) (u : Bool) (nv iv : Option Value) (all : List Str) (hza : all.length ≤ 900) (x : Int) (n : Str) (hn : valueAt rl x = some (vs n)) (hA : Rm A 7 70) (hR : RgIn w hr hrd rt rtd dist ka npts nodes rg ha vn ns rl nl its)
   (H : S C ((L, NsI (frR (some (.ref hr)) (some (vi x)) (some (szV sv)) (some (.bool u)) (some (.ref al)) (some (vi p)) nv iv)) :: (al, AllP w u all) :: its) s)
   (hQ1 : u = true → n ∈ all → ∀ s', S C ((L, NsI (frR (some (.ref hr)) (some (vi x)) (some (szV sv)) (some (.bool u)) (some (.ref al)) (some (vi p)) (some (vs n)) iv)) :: (al, AllP w u all) :: its) s' → Q .cont s')
   (hQ2 : ¬ (u = true ∧ n ∈ all) → ∀ s', S C ((L, NsI (frR (some (.ref hr)) (some (vi x)) (some (szV sv)) (some (.bool u)) (some (.ref al)) (some (vi p)) (some (vs n)) iv)) :: (al, AllP w u (all ++ [n])) :: its) s' → Q .next s') :
   wpAny (model PP w) A (execs [T.a0, T.a1] (T.env L)) Q E s := by
  obtain rfl := hT
  dsimp only [rgT]
  have hA1 := hA
  obtain ⟨g1, g2, g3, g4, g5, g6, g7⟩ := hR
  refine (show (let env : Env := RgP.env _ L; wpAny (model PP w) A (execs (_ :: _) env) Q E s) from ?_)
  intro env
  cases u with
  | true =>
    by_cases hna : n ∈ all
    · have hb : decide (n ∈ all) = true := decide_eq_true hna
      repeat' walk1
      exact hQ1 rfl hna _ H
    · have hb : decide (n ∈ all) = false := decide_eq_false hna
      repeat' walk1
      exact hQ2 (fun h => hna h.2) _ H
  | false =>
    repeat' walk1
    refine hQ2 (fun h => Bool.false_ne_true h.1) _ ?_
    show S C (_ :: (al, ListI ((all ++ [n]).map vs)) :: its) _
    rw [List.map_append]
    exact H
theorem K7 (w : World) (C : Cx) (hB : Bs PP w (hK w.params) gl C) (T : RgP) (hT : T.Ok) (L hr hrd rt rtd dist ka npts nodes rg ha : Addr) (vn : Int) (ns : List Int) (rl : List (Int × Value)) (nl : Nl) (A : Around) (its : List Item) (s : Shared) (Q : Flow → Shared → Prop) (E : Value → Shared → Prop) (al : Addr) (p : Nat) (sv : Option Int) (u : Bool) (nv iv : Option Value) (all : List Str) (hza : all.length ≤ 900) (x : Int) (n : Str) (hn : valueAt rl x = some (vs n)) (hA : Rm A 7 70) (hR : RgIn w hr hrd rt rtd dist ka npts nodes rg ha vn ns rl nl its)
   (H : S C ((L, NsI (frR (some (.ref hr)) (some (vi x)) (some (szV sv)) (some (.bool u)) (some (.ref al)) (some (vi p)) nv iv)) :: (al, AllP w u all) :: its) s)
   (hQ1 : u = true → n ∈ all → ∀ s', S C ((L, NsI (frR (some (.ref hr)) (some (vi x)) (some (szV sv)) (some (.bool u)) (some (.ref al)) (some (vi p)) (some (vs n)) iv)) :: (al, AllP w u all) :: its) s' → Q .cont s')
   (hQ2 : ¬ (u = true ∧ n ∈ all) → ∀ s', S C ((L, NsI (frR (some (.ref hr)) (some (vi x)) (some (szV sv)) (some (.bool u)) (some (.ref al)) (some (vi p)) (some (vs n)) iv)) :: (al, AllP w u (all ++ [n])) :: its) s' → Q .next s') :
   wpAny (model PP w) A (execs [T.c0, T.c1] (T.env L)) Q E s := by
  obtain rfl := hT
  dsimp only [rgT]
  have hA1 := hA
  obtain ⟨g1, g2, g3, g4, g5, g6, g7⟩ := hR
  refine (show (let env : Env := RgP.env _ L; wpAny (model PP w) A (execs (_ :: _) env) Q E s) from ?_)
  intro env
  cases u with
  | true =>
    by_cases hna : n ∈ all
    · have hb : decide (n ∈ all) = true := decide_eq_true hna
      repeat' walk1
      exact hQ1 rfl hna _ H
    · have hb : decide (n ∈ all) = false := decide_eq_false hna
      repeat' walk1
      exact hQ2 (fun h => hna h.2) _ H
  | false =>
    repeat' walk1
    refine hQ2 (fun h => Bool.false_ne_true h.1) _ ?_
    show S C (_ :: (al, ListI ((all ++ [n]).map vs)) :: its) _
    rw [List.map_append]
    exact H
theorem KS (w : World) (C : Cx) (hB : Bs PP w (hK w.params) gl C) (T : RgP) (hT : T.Ok) (L hr hrd rt rtd dist ka npts nodes rg ha : Addr) (vn : Int) (A : Around) (its : List Item) (s : Shared) (Q : Unit → Shared → Prop) (E : Value → Shared → Prop) (al : Addr) (p : Nat) (sv : Option Int) (u : Bool) (kv nv iv : Option Value) (x : Int) (v : Value) (hv : er v = vi x)
   (H : S C ((L, NsI (frR (some (.ref hr)) kv (some (szV sv)) (some (.bool u)) (some (.ref al)) (some (vi p)) nv iv)) :: its) s) (hQ : ∀ s', S C ((L, NsI (frR (some (.ref hr)) (some (vi x)) (some (szV sv)) (some (.bool u)) (some (.ref al)) (some (vi p)) nv iv)) :: its) s' → Q () s') :
   wpAny (model PP w) A (storeName (T.env L) "key" v) Q E s := by
  obtain rfl := hT
  dsimp only [rgT]
  refine (show (let env : Env := RgP.env _ L; wpAny (model PP w) A (storeName env "key" v) Q E s) from ?_)
  intro env
  repeat' walk1
  exact hQ _ H
theorem K3 (w : World) (C : Cx) (hB : Bs PP w (hK w.params) gl C) (T : RgP) (hT : T.Ok) (L hr hrd rt rtd dist ka npts nodes rg ha : Addr) (vn : Int) (ns : List Int) (rl : List (Int × Value)) (nl : Nl) (A : Around) (its : List Item) (s : Shared) (Q E : Value → Shared → Prop) (al : Addr) (p : Nat) (sv : Option Int) (u : Bool) (kv iv : Option Value) (n : Str) (a : Addr) (hn : valueAt (nlK nl) n = some (.ref a)) (hA : Rm A 7 70) (hR : RgIn w hr hrd rt rtd dist ka npts nodes rg ha vn ns rl nl its)
   (H : S C ((L, NsI (frR (some (.ref hr)) kv (some (szV sv)) (some (.bool u)) (some (.ref al)) (some (vi p)) (some (vs n)) iv)) :: its) s) (hQ : ∀ s', S C ((L, NsI (frR (some (.ref hr)) kv (some (szV sv)) (some (.bool u)) (some (.ref al)) (some (vi p)) (some (vs n)) iv)) :: its) s' → Q (.ref a) s') :
   wpAny (model PP w) A (eval T.ye (T.env L)) Q E s := by
  obtain rfl := hT
  dsimp only [rgT]
  have hA1 := hA
  obtain ⟨g1, g2, g3, g4, g5, g6, g7⟩ := hR
  refine (show (let env : Env := RgP.env _ L; wpAny (model PP w) A (eval _ env) Q E s) from ?_)
  intro env
  repeat' walk1
  exact hQ _ H
theorem K8 (w : World) (C : Cx) (hB : Bs PP w (hK w.params) gl C) (T : RgP) (hT : T.Ok) (L hr hrd rt rtd dist ka npts nodes rg ha : Addr) (vn : Int) (ns : List Int) (rl : List (Int × Value)) (nl : Nl) (A : Around) (its : List Item) (s : Shared) (Q E : Value → Shared → Prop) (al : Addr) (p : Nat) (sv : Option Int) (u : Bool) (kv iv : Option Value) (n : Str) (a : Addr) (hn : valueAt (nlK nl) n = some (.ref a)) (hA : Rm A 7 70) (hR : RgIn w hr hrd rt rtd dist ka npts nodes rg ha vn ns rl nl its)
   (H : S C ((L, NsI (frR (some (.ref hr)) kv (some (szV sv)) (some (.bool u)) (some (.ref al)) (some (vi p)) (some (vs n)) iv)) :: its) s) (hQ : ∀ s', S C ((L, NsI (frR (some (.ref hr)) kv (some (szV sv)) (some (.bool u)) (some (.ref al)) (some (vi p)) (some (vs n)) iv)) :: its) s' → Q (.ref a) s') :
   wpAny (model PP w) A (eval T.ye2 (T.env L)) Q E s := by
  obtain rfl := hT
  dsimp only [rgT]
  have hA1 := hA
  obtain ⟨g1, g2, g3, g4, g5, g6, g7⟩ := hR
  refine (show (let env : Env := RgP.env _ L; wpAny (model PP w) A (eval _ env) Q E s) from ?_)
  intro env
  repeat' walk1
  exact hQ _ H
theorem K4 (w : World) (C : Cx) (hB : Bs PP w (hK w.params) gl C) (T : RgP) (hT : T.Ok) (L hr hrd rt rtd dist ka npts nodes rg ha : Addr) (vn : Int) (ns : List Int) (rl : List (Int × Value)) (nl : Nl) (A : Around) (its : List Item) (s : Shared) (Q : Flow → Shared → Prop) (E : Value → Shared → Prop) (al : Addr) (p : Nat) (sv : Option Int) (u : Bool) (kv nv iv : Option Value) (all : List Str) (hza : all.length ≤ 900) (hA : Rm A 7 70)
   (H : S C ((L, NsI (frR (some (.ref hr)) kv (some (szV sv)) (some (.bool u)) (some (.ref al)) (some (vi p)) nv iv)) :: (al, AllP w u all) :: its) s)
   (hQ1 : sv = some (all.length : Int) → ∀ s', S C ((L, NsI (frR (some (.ref hr)) kv (some (szV sv)) (some (.bool u)) (some (.ref al)) (some (vi p)) nv iv)) :: (al, AllP w u all) :: its) s' → Q .brk s')
   (hQ2 : sv ≠ some (all.length : Int) → ∀ s', S C ((L, NsI (frR (some (.ref hr)) kv (some (szV sv)) (some (.bool u)) (some (.ref al)) (some (vi p)) nv iv)) :: (al, AllP w u all) :: its) s' → Q .next s') :
   wpAny (model PP w) A (execs [.If T.t1 [.Break T.bp] [] T.ip] (T.env L)) Q E s := by
  obtain rfl := hT
  dsimp only [rgT]
  have hA1 := hA
  refine (show (let env : Env := RgP.env _ L; wpAny (model PP w) A (execs (_ :: _) env) Q E s) from ?_)
  intro env
  have hl : (all.map vs).length = all.length := List.length_map _
  cases sv with
  | none =>
    simp only [szV] at H
    cases u with
    | true =>
      repeat' walk1
      all_goals exact hQ2 (by simp) _ H
    | false =>
      repeat' walk1
      all_goals exact hQ2 (by simp) _ H
  | some z =>
    simp only [szV] at H
    cases u with
    | true =>
      repeat' walk1
      · refine hQ1 ?_ _ H
        congr 1
        omega
      · refine hQ2 (fun e => ?_) _ H
        have e := Option.some.inj e
        omega
    | false =>
      repeat' walk1
      · refine hQ1 ?_ _ H
        congr 1
        omega
      · refine hQ2 (fun e => ?_) _ H
        have e := Option.some.inj e
        omega
theorem K9 (w : World) (C : Cx) (hB : Bs PP w (hK w.params) gl C) (T : RgP) (hT : T.Ok) (L hr hrd rt rtd dist ka npts nodes rg ha : Addr) (vn : Int) (ns : List Int) (rl : List (Int × Value)) (nl : Nl) (A : Around) (its : List Item) (s : Shared) (Q : Flow → Shared → Prop) (E : Value → Shared → Prop) (al : Addr) (p : Nat) (sv : Option Int) (u : Bool) (kv nv iv : Option Value) (all : List Str) (hza : all.length ≤ 900) (hA : Rm A 7 70)
   (H : S C ((L, NsI (frR (some (.ref hr)) kv (some (szV sv)) (some (.bool u)) (some (.ref al)) (some (vi p)) nv iv)) :: (al, AllP w u all) :: its) s)
   (hQ1 : sv = some (all.length : Int) → ∀ s', S C ((L, NsI (frR (some (.ref hr)) kv (some (szV sv)) (some (.bool u)) (some (.ref al)) (some (vi p)) nv iv)) :: (al, AllP w u all) :: its) s' → Q .brk s')
   (hQ2 : sv ≠ some (all.length : Int) → ∀ s', S C ((L, NsI (frR (some (.ref hr)) kv (some (szV sv)) (some (.bool u)) (some (.ref al)) (some (vi p)) nv iv)) :: (al, AllP w u all) :: its) s' → Q .next s') :
   wpAny (model PP w) A (execs [.If T.t3 [.Break T.bp2] [] T.ip2] (T.env L)) Q E s := by
  obtain rfl := hT
  dsimp only [rgT]
  have hA1 := hA
  refine (show (let env : Env := RgP.env _ L; wpAny (model PP w) A (execs (_ :: _) env) Q E s) from ?_)
  intro env
  have hl : (all.map vs).length = all.length := List.length_map _
  cases sv with
  | none =>
    simp only [szV] at H
    cases u with
    | true =>
      repeat' walk1
      all_goals exact hQ2 (by simp) _ H
    | false =>
      repeat' walk1
      all_goals exact hQ2 (by simp) _ H
  | some z =>
    simp only [szV] at H
    cases u with
    | true =>
      repeat' walk1
      · refine hQ1 ?_ _ H
        congr 1
        omega
      · refine hQ2 (fun e => ?_) _ H
        have e := Option.some.inj e
        omega
    | false =>
      repeat' walk1
      · refine hQ1 ?_ _ H
        congr 1
        omega
      · refine hQ2 (fun e => ?_) _ H
        have e := Option.some.inj e
        omega
theorem K5 (w : World) (C : Cx) (hB : Bs PP w (hK w.params) gl C) (T : RgP) (hT : T.Ok) (L hr hrd rt rtd dist ka npts nodes rg ha : Addr) (vn : Int) (ns : List Int) (rl : List (Int × Value)) (nl : Nl) (A : Around) (its : List Item) (s : Shared) (Q E : Value → Shared → Prop) (al : Addr) (p : Nat) (sv : Option Int) (u : Bool) (kv nv iv : Option Value) (hA : Rm A 7 70) (hR : RgIn w hr hrd rt rtd dist ka npts nodes rg ha vn ns rl nl its)
   (H : S C ((L, NsI (frR (some (.ref hr)) kv (some (szV sv)) (some (.bool u)) (some (.ref al)) (some (vi p)) nv iv)) :: its) s) (hQ : ∀ e i1 s', (e ∉ C.tb ∧ i1 ∉ C.tb) → S C (enumP e i1 ka 0 ++ ((L, NsI (frR (some (.ref hr)) kv (some (szV sv)) (some (.bool u)) (some (.ref al)) (some (vi p)) nv iv)) :: its)) s' → Q (.ref e) s') :
   wpAny (model PP w) A (eval T.it2 (T.env L)) Q E s := by
  obtain rfl := hT
  dsimp only [rgT]
  have hA1 := hA
  obtain ⟨g1, g2, g3, g4, g5, g6, g7⟩ := hR
  refine (show (let env : Env := RgP.env _ L; wpAny (model PP w) A (eval _ env) Q E s) from ?_)
  intro env
  repeat' walk1
  exact hQ _ _ _ (by assumption) H
theorem F5 (w : World) (C : Cx) (hB : Bs PP w (hK w.params) gl C) (T : RgP) (hT : T.Ok) (L hr hrd rt rtd dist ka npts nodes rg ha : Addr) (vn : Int) : ∀ x, foldedSetIterable T.it2 (T.env L) x = pure x := by
  obtain rfl := hT
  dsimp only [rgT]
  intro x
  rfl
theorem K6 (w : World) (C : Cx) (hB : Bs PP w (hK w.params) gl C) (T : RgP) (hT : T.Ok) (L hr hrd rt rtd dist ka npts nodes rg ha : Addr) (vn : Int) (A : Around) (its : List Item) (s : Shared) (Q : Bool → Shared → Prop) (E : Value → Shared → Prop) (al : Addr) (p : Nat) (sv : Option Int) (u : Bool) (kv nv iv : Option Value) (i : Nat) (x : Int) (v1 v2 : Value) (e1 : er v1 = vi i) (e2 : er v2 = vi x) (hA : Rm A 7 70)
   (H : S C ((L, NsI (frR (some (.ref hr)) kv (some (szV sv)) (some (.bool u)) (some (.ref al)) (some (vi p)) nv iv)) :: its) s) (hQ : ∀ s', S C ((L, NsI (frR (some (.ref hr)) (some (vi x)) (some (szV sv)) (some (.bool u)) (some (.ref al)) (some (vi p)) nv (some (vi i)))) :: its) s' → Q (decide ((i : Int) < (p : Int))) s') :
   wpAny (model PP w) A (assignInOrder (List.map (fun x => x.2) (assignEach [.Name "i" T.p1, .Name "key" T.p2] (T.env L))) [v1, v2]) (fun _ s₂ => wpAny (model PP w) A (isTrue T.t2 (T.env L) (eval T.t2 (T.env L))) Q E s₂) E s := by
  obtain rfl := hT
  dsimp only [rgT]
  have hA1 := hA
  refine (show (let env : Env := RgP.env _ L; wpAny (model PP w) A (assignInOrder (List.map (fun x => x.2) (assignEach [.Name "i" _, .Name "key" _] env)) [v1, v2]) (fun _ s₂ => wpAny (model PP w) A (isTrue _ env (eval _ env)) Q E s₂) E s) from ?_)
  intro env
  repeat' walk1
  all_goals exact hQ _ H
theorem AE (T : RgP) (L : Addr) : ((assignEach [.Name "i" T.p1, .Name "key" T.p2] (T.env L)).length = 2) ∧ List.findIdx? (fun x => x.1) (assignEach [.Name "i" T.p1, .Name "key" T.p2] (T.env L)) = none := ⟨rfl, rfl⟩
theorem IC (w : World) (C : Cx) (hB : Bs PP w (hK w.params) gl C) (T : RgP) (hT : T.Ok) (L hr hrd rt rtd dist ka npts nodes rg ha : Addr) (vn : Int) : (T.env L).scope.isCoroutine = false ∧ interactive (T.env L) = false := by
  obtain rfl := hT
  dsimp only [rgT]
  exact ⟨rfl, rfl⟩

end Mc

namespace Mc
/-- what range gives: the names -/
noncomputable def rgo (u : Bool) (sv : Option Int) : List Str → List Str → List Str
  | _, [] => []
  | all, n :: r => if u = true ∧ n ∈ all then rgo u sv all r else n :: (if sv = some ((all ++ [n]).length : Int) then [] else rgo u sv (all ++ [n]) r)
theorem rgo_skip {u : Bool} {sv : Option Int} {all : List Str} {n : Str} {r : List Str} (h1 : u = true) (h2 : n ∈ all) : rgo u sv all (n :: r) = rgo u sv all r := by rw [rgo, if_pos ⟨h1, h2⟩]
theorem rgo_take {u : Bool} {sv : Option Int} {all : List Str} {n : Str} {r : List Str} (h : ¬ (u = true ∧ n ∈ all)) : rgo u sv all (n :: r) = n :: (if sv = some ((all ++ [n]).length : Int) then [] else rgo u sv (all ++ [n]) r) := by rw [rgo, if_neg h]
noncomputable abbrev rgN (w : World) (hr hrd rt rtd dist ka npts nodes rg ha : Addr) (vn : Int) (ns : List Int) (rl : List (Int × Value)) (nl : Nl) : List Item :=
  [(hr, InstI 392 hrd), (hrd, DictI (sk PP w) (hrA rt vn .none) none), (rt, InstI 118 rtd), (rtd, DictI (sk PP w) (rtA dist ka npts nodes rg (.ref ha)) none), (ka, ListI (ns.map vi)), (nodes, DictI (sk PP w) (nlK nl) none), (rg, DictI (ik PP w) rl none)]
theorem rgIn_of {w : World} {hr hrd rt rtd dist ka npts nodes rg ha : Addr} {vn : Int} {ns : List Int} {rl : List (Int × Value)} {nl : Nl} {its : List Item} (h : ∀ p ∈ rgN w hr hrd rt rtd dist ka npts nodes rg ha vn ns rl nl, p ∈ its) : RgIn w hr hrd rt rtd dist ka npts nodes rg ha vn ns rl nl its :=
  ⟨h _ (by first | exact List.mem_of_getElem? (i := 0) rfl | exact List.mem_of_getElem? (i := 1) rfl | exact List.mem_of_getElem? (i := 2) rfl | exact List.mem_of_getElem? (i := 3) rfl | exact List.mem_of_getElem? (i := 4) rfl | exact List.mem_of_getElem? (i := 5) rfl | exact List.mem_of_getElem? (i := 6) rfl | exact List.mem_of_getElem? (i := 7) rfl | exact List.mem_of_getElem? (i := 8) rfl), h _ (by first | exact List.mem_of_getElem? (i := 0) rfl | exact List.mem_of_getElem? (i := 1) rfl | exact List.mem_of_getElem? (i := 2) rfl | exact List.mem_of_getElem? (i := 3) rfl | exact List.mem_of_getElem? (i := 4) rfl | exact List.mem_of_getElem? (i := 5) rfl | exact List.mem_of_getElem? (i := 6) rfl | exact List.mem_of_getElem? (i := 7) rfl | exact List.mem_of_getElem? (i := 8) rfl), h _ (by first | exact List.mem_of_getElem? (i := 0) rfl | exact List.mem_of_getElem? (i := 1) rfl | exact List.mem_of_getElem? (i := 2) rfl | exact List.mem_of_getElem? (i := 3) rfl | exact List.mem_of_getElem? (i := 4) rfl | exact List.mem_of_getElem? (i := 5) rfl | exact List.mem_of_getElem? (i := 6) rfl | exact List.mem_of_getElem? (i := 7) rfl | exact List.mem_of_getElem? (i := 8) rfl), h _ (by first | exact List.mem_of_getElem? (i := 0) rfl | exact List.mem_of_getElem? (i := 1) rfl | exact List.mem_of_getElem? (i := 2) rfl | exact List.mem_of_getElem? (i := 3) rfl | exact List.mem_of_getElem? (i := 4) rfl | exact List.mem_of_getElem? (i := 5) rfl | exact List.mem_of_getElem? (i := 6) rfl | exact List.mem_of_getElem? (i := 7) rfl | exact List.mem_of_getElem? (i := 8) rfl), h _ (by first | exact List.mem_of_getElem? (i := 0) rfl | exact List.mem_of_getElem? (i := 1) rfl | exact List.mem_of_getElem? (i := 2) rfl | exact List.mem_of_getElem? (i := 3) rfl | exact List.mem_of_getElem? (i := 4) rfl | exact List.mem_of_getElem? (i := 5) rfl | exact List.mem_of_getElem? (i := 6) rfl | exact List.mem_of_getElem? (i := 7) rfl | exact List.mem_of_getElem? (i := 8) rfl), h _ (by first | exact List.mem_of_getElem? (i := 0) rfl | exact List.mem_of_getElem? (i := 1) rfl | exact List.mem_of_getElem? (i := 2) rfl | exact List.mem_of_getElem? (i := 3) rfl | exact List.mem_of_getElem? (i := 4) rfl | exact List.mem_of_getElem? (i := 5) rfl | exact List.mem_of_getElem? (i := 6) rfl | exact List.mem_of_getElem? (i := 7) rfl | exact List.mem_of_getElem? (i := 8) rfl), h _ (by first | exact List.mem_of_getElem? (i := 0) rfl | exact List.mem_of_getElem? (i := 1) rfl | exact List.mem_of_getElem? (i := 2) rfl | exact List.mem_of_getElem? (i := 3) rfl | exact List.mem_of_getElem? (i := 4) rfl | exact List.mem_of_getElem? (i := 5) rfl | exact List.mem_of_getElem? (i := 6) rfl | exact List.mem_of_getElem? (i := 7) rfl | exact List.mem_of_getElem? (i := 8) rfl)⟩
theorem RgIn.tl {w : World} {hr hrd rt rtd dist ka npts nodes rg ha : Addr} {vn : Int} {ns : List Int} {rl : List (Int × Value)} {nl : Nl} {its its' : List Item} (h : RgIn w hr hrd rt rtd dist ka npts nodes rg ha vn ns rl nl its) (hs : ∀ p ∈ its, p ∈ its') : RgIn w hr hrd rt rtd dist ka npts nodes rg ha vn ns rl nl its' :=
  ⟨hs _ h.h1, hs _ h.h2, hs _ h.h3, hs _ h.h4, hs _ h.h5, hs _ h.h6, hs _ h.h7⟩
/-- frames from which the generator ends -/
noncomputable def EndF (w : World) (fs : List Frame) : Prop := ∀ c A R Y s, R (.ok (.ret .none)) s → Sg (model PP w) A R Y c (.pure (.done .next)) fs s
section
variable {w : World} {C : Cx} (hB : Bs PP w (hK w.params) gl C) {T : RgP} (hT : T.Ok) {L hr hrd rt rtd dist ka npts nodes rg ha : Addr} {vn : Int} {ns : List Int} (hz : ns.length < 64) {rl : List (Int × Value)} {nl : Nl} {nameF : Int → Str} {ad : Str → Addr}
  (hnm : ∀ x ∈ ns, valueAt rl x = some (vs (nameF x)) ∧ valueAt (nlK nl) (nameF x) = some (.ref (ad (nameF x)))) {g : Nat} {need : List Item} (hneed : ∀ p ∈ rgN w hr hrd rt rtd dist ka npts nodes rg ha vn ns rl nl, p ∈ need) {al : Addr} {p : Nat} {sv : Option Int} {u : Bool}
noncomputable abbrev Vr (ad : Str → Addr) (ys : List Str) : List Value := ys.map fun n => .ref (ad n)
noncomputable abbrev c2 (T : RgP) (L e : Addr) : Code := .forLoop (.Tuple [.Name "i" T.p1, .Name "key" T.p2] T.k T.tp) (.ref e) [.If T.t2 T.b2 [] T.cp] [] (T.env L)
noncomputable abbrev c1 (T : RgP) (L it : Addr) : Code := .forLoop (.Name "key" T.kp) (.ref it) T.b1 T.o1 (T.env L)
theorem wgt {t : PySem.Expr} {it : Value} {b o : List Stmt} {env : Env} : (Code.forLoop t it b o env).cUnits ≤ 3 ∧ (Code.forLoop t it b o env).weight ≤ 1 := ⟨by show 3 * 0 ≤ 3; decide, by show 0 + _ + _ + _ ≤ 1; exact Nat.zero_le _⟩
theorem wgtB {b : List Stmt} {env : Env} : (Code.block b env).cUnits ≤ 3 ∧ (Code.block b env).weight ≤ 1 := ⟨by show 3 * 0 ≤ 3; decide, by show 0 + _ + _ + _ ≤ 1; exact Nat.zero_le _⟩
theorem wgtF {b : List Stmt} {env : Env} : (Code.func b env).cUnits ≤ 3 ∧ (Code.func b env).weight ≤ 1 := ⟨by show 3 * 1 ≤ 3; decide, by show 1 + _ + _ + _ ≤ 1; exact Nat.le_refl _⟩




include hB hT hz hnm hneed in
theorem rg_body1 (c : Code) (hq : c.quiet = true) (hw : c.cUnits ≤ 3 ∧ c.weight ≤ 1) (fs : List Frame) (hf : retFrames fs) (hfl : fs.length ≤ 2) (hF : EndF w fs) (mid : List Item) (rest : List Str) (x : Int) (hx : x ∈ ns) (all : List Str) (hza : all.length ≤ 200)
   (ih : ∀ (all' : List Str) (kv nv iv : Option Value) (A : Around) (fr : List Item) (G : Array GenState) (s : Shared), all'.length ≤ all.length + 1 → Rm A 10 80 → (∀ q ∈ need, q ∈ fr) →
     S (C.wg G) ((L, NsI (frR (some (.ref hr)) kv (some (szV sv)) (some (.bool u)) (some (.ref al)) (some (vi p)) nv iv)) :: (al, AllP w u all') :: (mid ++ fr)) s →
     Sg (model PP w) A (GRe C g (Vr ad (rgo u sv all' rest)) fr G) (GYe PP w C g 10 80 need (Vr ad (rgo u sv all' rest)) fr G) c ((model PP w).den c) fs s)
   (nv iv : Option Value) (A : Around) (fr : List Item) (G : Array GenState) (s : Shared) (hA : Rm A 10 80) (hn : ∀ q ∈ need, q ∈ fr)
   (H : S (C.wg G) ((L, NsI (frR (some (.ref hr)) (some (vi x)) (some (szV sv)) (some (.bool u)) (some (.ref al)) (some (vi p)) nv iv)) :: (al, AllP w u all) :: (mid ++ fr)) s) :
   Sg (model PP w) A (GRe C g (Vr ad (rgo u sv all (nameF x :: rest))) fr G) (GYe PP w C g 10 80 need (Vr ad (rgo u sv all (nameF x :: rest))) fr G) c ((execs [T.a0, T.a1, .Expr (.Yield (some T.ye) T.yp) T.yq, .If T.t1 [.Break T.bp] [] T.ip] (T.env L)).wrap (KTurn c) (HTurn (T.env L)) id id) fs s := by
  have hnx := hnm x hx
  have hAo := over_rm (A := A) (c := c) hf hw (d := 7) (u := 70) (hA.le (by omega) (by omega))
  have hR : ∀ {fr : List Item}, (∀ q ∈ need, q ∈ fr) → RgIn w hr hrd rt rtd dist ka npts nodes rg ha vn ns rl nl (mid ++ fr) := fun hn => rgIn_of fun q hq => List.mem_append_right _ (hn q (hneed q hq))
  refine sg_pre _ 2 fun A1 E1 hA1 => ?_
  refine K2 w (C.wg G) (hB.wg G) T hT L hr hrd rt rtd dist ka npts nodes rg ha vn ns rl nl A1 (mid ++ fr) s _ E1 al p sv u nv iv all (by omega) x (nameF x) hnx.1 (hA1 ▸ hAo) (hR hn) H (fun hu hin s' H' => ?_) fun hni s' H' => ?_
  · show Sg _ A _ _ c (.pure (.again c)) fs s'
    rw [rgo_skip hu hin]
    exact sg_again hq (ih all _ _ _ A fr G s' (by omega) hA hn H')
  · show Sg _ A _ _ c ((execs [.Expr (.Yield (some T.ye) T.yp) T.yq, .If T.t1 [.Break T.bp] [] T.ip] (T.env L)).wrap (KTurn c) (HTurn (T.env L)) id id) fs s'
    obtain ⟨z1, z2⟩ := split_ret hf
    have ic := IC w C hB T hT L hr hrd rt rtd dist ka npts nodes rg ha vn
    rw [rgo_take hni]
    refine sg_execs_cons (sg_Yield z1 rfl z2 ?_ ic.1 ic.2)
    refine K3 w (C.wg G) (hB.wg G) T hT L hr hrd rt rtd dist ka npts nodes rg ha vn ns rl nl (A.over c fs) ((al, AllP w u (all ++ [nameF x])) :: (mid ++ fr)) s' _ _ al p sv u _ iv (nameF x) (ad (nameF x)) hnx.2 hAo ((hR hn).tl fun _ h => .tail _ h) H' fun s₂ H2 => ?_
    intro gs' hbare hgo
    refine GYe.mk (vs := Vr ad (if sv = some ((all ++ [nameF x]).length : Int) then [] else rgo u sv (all ++ [nameF x]) rest)) (P' := fun _ => True) (own' := (L, NsI (frR (some (.ref hr)) (some (vi x)) (some (szV sv)) (some (.bool u)) (some (.ref al)) (some (vi p)) (some (vs (nameF x))) iv)) :: (al, AllP w u (all ++ [nameF x])) :: mid) rfl GRel.refl trivial (fun _ _ _ _ => trivial) ?_ (by simpa using H2)
    rw [Gd_iff]
    intro A' fr' G' s'' hA' _ hg' hn' H''
    refine hgo _ _ _ _ ?_
    have hAo' := over_rm (A := A') (c := c) hf hw (d := 7) (u := 70) (hA'.le (by omega) (by omega))
    show Sg _ A' _ _ c ((execs [.If T.t1 [.Break T.bp] [] T.ip] (T.env L)).wrap (KTurn c) (HTurn (T.env L)) id id) fs s''
    refine sg_all _ fun A1 E1 hA1 => ?_
    refine K4 w (C.wg G') (hB.wg G') T hT L hr hrd rt rtd dist ka npts nodes rg ha vn ns rl nl A1 (mid ++ fr') s'' _ E1 al p sv u _ _ iv (all ++ [nameF x]) (by simp; omega) (hA1 ▸ hAo') H'' (fun he s₃ H3 => ?_) fun he s₃ H3 => ?_
    · show Sg _ A' _ _ c (.pure (.done .next)) fs s₃
      rw [if_pos he]
      exact hF _ _ _ _ _ (GRe.fin GRel.refl (S.mono H3 (List.Sublist.cons _ (List.Sublist.cons _ (List.sublist_append_right _ _)))))
    · show Sg _ A' _ _ c (.pure (.again c)) fs s₃
      rw [if_neg he]
      exact sg_again hq (ih _ _ _ _ A' fr' G' s₃ (by simp) hA' hn' H3)

include hB hT hz hnm hneed in
theorem rg_body2 (c : Code) (hq : c.quiet = true) (hw : c.cUnits ≤ 3 ∧ c.weight ≤ 1) (fs : List Frame) (hf : retFrames fs) (hfl : fs.length ≤ 2) (hF : EndF w fs) (mid : List Item) (rest : List Str) (x : Int) (hx : x ∈ ns) (all : List Str) (hza : all.length ≤ 200)
   (ih : ∀ (all' : List Str) (kv nv iv : Option Value) (A : Around) (fr : List Item) (G : Array GenState) (s : Shared), all'.length ≤ all.length + 1 → Rm A 10 80 → (∀ q ∈ need, q ∈ fr) →
     S (C.wg G) ((L, NsI (frR (some (.ref hr)) kv (some (szV sv)) (some (.bool u)) (some (.ref al)) (some (vi p)) nv iv)) :: (al, AllP w u all') :: (mid ++ fr)) s →
     Sg (model PP w) A (GRe C g (Vr ad (rgo u sv all' rest)) fr G) (GYe PP w C g 10 80 need (Vr ad (rgo u sv all' rest)) fr G) c ((model PP w).den c) fs s)
   (nv iv : Option Value) (A : Around) (fr : List Item) (G : Array GenState) (s : Shared) (hA : Rm A 10 80) (hn : ∀ q ∈ need, q ∈ fr)
   (H : S (C.wg G) ((L, NsI (frR (some (.ref hr)) (some (vi x)) (some (szV sv)) (some (.bool u)) (some (.ref al)) (some (vi p)) nv iv)) :: (al, AllP w u all) :: (mid ++ fr)) s) :
   Sg (model PP w) A (GRe C g (Vr ad (rgo u sv all (nameF x :: rest))) fr G) (GYe PP w C g 10 80 need (Vr ad (rgo u sv all (nameF x :: rest))) fr G) c ((execs [T.c0, T.c1, .Expr (.Yield (some T.ye2) T.yp2) T.yq2, .If T.t3 [.Break T.bp2] [] T.ip2] (T.env L)).wrap (KTurn c) (HTurn (T.env L)) id id) fs s := by
  have hnx := hnm x hx
  have hAo := over_rm (A := A) (c := c) hf hw (d := 7) (u := 70) (hA.le (by omega) (by omega))
  have hR : ∀ {fr : List Item}, (∀ q ∈ need, q ∈ fr) → RgIn w hr hrd rt rtd dist ka npts nodes rg ha vn ns rl nl (mid ++ fr) := fun hn => rgIn_of fun q hq => List.mem_append_right _ (hn q (hneed q hq))
  refine sg_pre _ 2 fun A1 E1 hA1 => ?_
  refine K7 w (C.wg G) (hB.wg G) T hT L hr hrd rt rtd dist ka npts nodes rg ha vn ns rl nl A1 (mid ++ fr) s _ E1 al p sv u nv iv all (by omega) x (nameF x) hnx.1 (hA1 ▸ hAo) (hR hn) H (fun hu hin s' H' => ?_) fun hni s' H' => ?_
  · show Sg _ A _ _ c (.pure (.again c)) fs s'
    rw [rgo_skip hu hin]
    exact sg_again hq (ih all _ _ _ A fr G s' (by omega) hA hn H')
  · show Sg _ A _ _ c ((execs [.Expr (.Yield (some T.ye2) T.yp2) T.yq2, .If T.t3 [.Break T.bp2] [] T.ip2] (T.env L)).wrap (KTurn c) (HTurn (T.env L)) id id) fs s'
    obtain ⟨z1, z2⟩ := split_ret hf
    have ic := IC w C hB T hT L hr hrd rt rtd dist ka npts nodes rg ha vn
    rw [rgo_take hni]
    refine sg_execs_cons (sg_Yield z1 rfl z2 ?_ ic.1 ic.2)
    refine K8 w (C.wg G) (hB.wg G) T hT L hr hrd rt rtd dist ka npts nodes rg ha vn ns rl nl (A.over c fs) ((al, AllP w u (all ++ [nameF x])) :: (mid ++ fr)) s' _ _ al p sv u _ iv (nameF x) (ad (nameF x)) hnx.2 hAo ((hR hn).tl fun _ h => .tail _ h) H' fun s₂ H2 => ?_
    intro gs' hbare hgo
    refine GYe.mk (vs := Vr ad (if sv = some ((all ++ [nameF x]).length : Int) then [] else rgo u sv (all ++ [nameF x]) rest)) (P' := fun _ => True) (own' := (L, NsI (frR (some (.ref hr)) (some (vi x)) (some (szV sv)) (some (.bool u)) (some (.ref al)) (some (vi p)) (some (vs (nameF x))) iv)) :: (al, AllP w u (all ++ [nameF x])) :: mid) rfl GRel.refl trivial (fun _ _ _ _ => trivial) ?_ (by simpa using H2)
    rw [Gd_iff]
    intro A' fr' G' s'' hA' _ hg' hn' H''
    refine hgo _ _ _ _ ?_
    have hAo' := over_rm (A := A') (c := c) hf hw (d := 7) (u := 70) (hA'.le (by omega) (by omega))
    show Sg _ A' _ _ c ((execs [.If T.t3 [.Break T.bp2] [] T.ip2] (T.env L)).wrap (KTurn c) (HTurn (T.env L)) id id) fs s''
    refine sg_all _ fun A1 E1 hA1 => ?_
    refine K9 w (C.wg G') (hB.wg G') T hT L hr hrd rt rtd dist ka npts nodes rg ha vn ns rl nl A1 (mid ++ fr') s'' _ E1 al p sv u _ _ iv (all ++ [nameF x]) (by simp; omega) (hA1 ▸ hAo') H'' (fun he s₃ H3 => ?_) fun he s₃ H3 => ?_
    · show Sg _ A' _ _ c (.pure (.done .next)) fs s₃
      rw [if_pos he]
      exact hF _ _ _ _ _ (GRe.fin GRel.refl (S.mono H3 (List.Sublist.cons _ (List.Sublist.cons _ (List.sublist_append_right _ _)))))
    · show Sg _ A' _ _ c (.pure (.again c)) fs s₃
      rw [if_neg he]
      exact sg_again hq (ih _ _ _ _ A' fr' G' s₃ (by simp) hA' hn' H3)

include hB hT hz hnm hneed in
/-- the second loop, from its i-th turn -/
theorem rg_loop2 (e i1 : Addr) (hte : e ∉ C.tb ∧ i1 ∉ C.tb) (fs : List Frame) (hf : retFrames fs) (hfl : fs.length ≤ 2) (hF : EndF w fs) (hp : p ≤ ns.length) (X : List Item) :
   ∀ (m i : Nat), m = ns.length - i → i ≤ ns.length → ∀ (all : List Str) (kv nv iv : Option Value) (A : Around) (fr : List Item) (G : Array GenState) (s : Shared), all.length ≤ 100 + i → Rm A 10 80 → (∀ q ∈ need, q ∈ fr) →
     S (C.wg G) ((L, NsI (frR (some (.ref hr)) kv (some (szV sv)) (some (.bool u)) (some (.ref al)) (some (vi p)) nv iv)) :: (al, AllP w u all) :: ((enumP e i1 ka i ++ X) ++ fr)) s →
     Sg (model PP w) A (GRe C g (Vr ad (rgo u sv all (((ns.take p).drop i).map nameF))) fr G) (GYe PP w C g 10 80 need (Vr ad (rgo u sv all (((ns.take p).drop i).map nameF))) fr G) (c2 T L e) ((model PP w).den (c2 T L e)) fs s := by
  intro m
  induction m with
  | zero =>
    intro i hm hi all kv nv iv A fr G s hal hA hn H
    have hin : i = ns.length := by omega
    have hd : (ns.take p).drop i = [] := List.drop_eq_nil_of_le (by rw [List.length_take]; omega)
    rw [hd]
    have hAo := over_rm (A := A) (c := c2 T L e) hf wgt (d := 7) (u := 70) (hA.le (by omega) (by omega))
    have hR : RgIn w hr hrd rt rtd dist ka npts nodes rg ha vn ns rl nl fr := rgIn_of fun q hq => hn q (hneed q hq)
    have hln : (ns.map vi).length = ns.length := List.length_map _
    have H1 : S (C.wg G) (enumP e i1 ka i ++ ((L, NsI (frR (some (.ref hr)) kv (some (szV sv)) (some (.bool u)) (some (.ref al)) (some (vi p)) nv iv)) :: (al, AllP w u all) :: (X ++ fr))) s := by
      refine H.perm ?_
      rw [List.append_assoc]
      exact List.perm_append_comm_assoc [_, _] (enumP e i1 ka i) (X ++ fr)
    refine sg_nxZ_end (C := C.wg G) (nxZ_enum e i1 ka (ns.map vi) hte) hAo.hd (.tail _ (.tail _ (List.mem_append_right _ hR.h5))) (by rw [hln, ← hin]; exact H1) fun s₁ H' => ?_
    refine sg_block (sg_execs_nil ?_)
    exact hF _ _ _ _ _ (GRe.fin GRel.refl (S.mono H'.tail.tail (List.sublist_append_right _ _)))
  | succ m ih =>
    intro i hm hi all kv nv iv A fr G s hal hA hn H
    have hlt : i < ns.length := by omega
    have hAo := over_rm (A := A) (c := c2 T L e) hf wgt (d := 7) (u := 70) (hA.le (by omega) (by omega))
    have hR : ∀ {fr : List Item}, (∀ q ∈ need, q ∈ fr) → RgIn w hr hrd rt rtd dist ka npts nodes rg ha vn ns rl nl fr := fun hn => rgIn_of fun q hq => hn q (hneed q hq)
    have hln : (ns.map vi).length = ns.length := List.length_map _
    have hBG := hB.wg G
    have H1 : S (C.wg G) (enumP e i1 ka i ++ ((L, NsI (frR (some (.ref hr)) kv (some (szV sv)) (some (.bool u)) (some (.ref al)) (some (vi p)) nv iv)) :: (al, AllP w u all) :: (X ++ fr))) s := by
      refine H.perm ?_
      rw [List.append_assoc]
      exact List.perm_append_comm_assoc [_, _] (enumP e i1 ka i) (X ++ fr)
    refine sg_nxZ (C := C.wg G) (nxZ_enum e i1 ka (ns.map vi) hte) hAo.hd (fun j us h => ?_) (AE T L).2 (by rw [hln]; exact hlt) (.tail _ (.tail _ (List.mem_append_right _ (hR hn).h5))) H1 fun us s₁ hus H' A1 E1 hA1 => ?_
    · obtain ⟨n, x, X, rfl, _⟩ := h
      exact (AE T L).1
    · obtain ⟨n, x, X0, rfl, en, hX, ex⟩ := hus
      rw [List.getElem?_map, List.getElem?_eq_getElem hlt] at hX
      cases hX
      have H1 : S (C.wg G) ((L, NsI (frR (some (.ref hr)) kv (some (szV sv)) (some (.bool u)) (some (.ref al)) (some (vi p)) nv iv)) :: (al, AllP w u all) :: ((enumP e i1 ka (i + 1) ++ X) ++ fr)) s₁ := by
        refine H'.perm ?_
        rw [List.append_assoc]
        exact List.perm_append_comm_assoc (enumP e i1 ka (i + 1)) [_, _] (X ++ fr)
      generalize hRR : GRe C g (Vr ad (rgo u sv all (((ns.take p).drop i).map nameF))) fr G = RR
      generalize hYY : GYe PP w C g 10 80 need (Vr ad (rgo u sv all (((ns.take p).drop i).map nameF))) fr G = YY
      have k6 := K6 w (C.wg G) hBG T hT L hr hrd rt rtd dist ka npts nodes rg ha vn A1 ((al, AllP w u all) :: ((enumP e i1 ka (i + 1) ++ X) ++ fr)) s₁ (fun b s' => if b = true then Sg (model PP w) A RR YY (c2 T L e) ((execs T.b2 (T.env L)).wrap (KTurn (c2 T L e)) (HTurn (T.env L)) id id) fs s' else Sg (model PP w) A RR YY (c2 T L e) ((execs [] (T.env L)).wrap (KTurn (c2 T L e)) (HTurn (T.env L)) id id) fs s') (fun _ _ => False) al p sv u kv nv iv i (ns[i]) n x en ex (hA1 ▸ hAo) H1 ?_
      · refine wpAny_mono k6 (fun _ s₃ h₃ => ?_) fun _ _ h => h.elim
        refine sg_execs1 (sg_If (wpAny_mono (hA1 ▸ h₃) (fun b s' h => ?_) fun _ _ h => h.elim))
        cases b with
        | true => exact h
        | false => exact h
      · intro s₂ H2
        subst hRR hYY
        by_cases hip : i < p
        · rw [if_pos (by simpa using hip)]
          have hdr : ((ns.take p).drop i).map nameF = nameF ns[i] :: ((ns.take p).drop (i + 1)).map nameF := by
            rw [List.drop_eq_getElem_cons (by rw [List.length_take]; omega), List.map_cons, List.getElem_take]
          rw [hdr]
          exact rg_body2 hB hT hz hnm hneed (c2 T L e) rfl wgt fs hf hfl hF (enumP e i1 ka (i + 1) ++ X) _ ns[i] (List.getElem_mem hlt) all (by omega)
            (fun all' kv nv iv A fr G s h1 h2 h3 H => ih (i + 1) (by omega) (by omega) all' kv nv iv A fr G s (by omega) h2 h3 H) nv _ A fr G s₂ hA hn H2
        · rw [if_neg (by simpa using hip)]
          have hd : (ns.take p).drop i = [] := List.drop_eq_nil_of_le (by rw [List.length_take]; omega)
          have hd' : (ns.take p).drop (i + 1) = [] := List.drop_eq_nil_of_le (by rw [List.length_take]; omega)
          have ih' := ih (i + 1) (by omega) (by omega) all _ _ _ A fr G s₂ (by omega) hA hn H2
          rw [hd'] at ih'
          rw [hd]
          exact sg_again rfl ih'
include hB hT hz hnm hneed in
/-- the first loop, from its i-th turn -/
theorem rg_loop1 (it sl : Addr) (hit : it ∉ C.tb) (fs : List Frame) (hf : retFrames fs) (hfl : fs.length ≤ 1) (hF : EndF w fs) (hp : p ≤ ns.length) :
   ∀ (m i : Nat), m = (ns.drop p).length - i → i ≤ (ns.drop p).length → ∀ (all : List Str) (kv nv iv : Option Value) (A : Around) (fr : List Item) (G : Array GenState) (s : Shared), all.length ≤ i → Rm A 10 80 → (∀ q ∈ need, q ∈ fr) →
     S (C.wg G) ((L, NsI (frR (some (.ref hr)) kv (some (szV sv)) (some (.bool u)) (some (.ref al)) (some (vi p)) nv iv)) :: (al, AllP w u all) :: ([(it, ListIt sl i), (sl, ListI ((ns.drop p).map vi))] ++ fr)) s →
     Sg (model PP w) A (GRe C g (Vr ad (rgo u sv all (((ns.drop p).drop i ++ ns.take p).map nameF))) fr G) (GYe PP w C g 10 80 need (Vr ad (rgo u sv all (((ns.drop p).drop i ++ ns.take p).map nameF))) fr G) (c1 T L it) ((model PP w).den (c1 T L it)) fs s := by
  intro m
  have hdl : (ns.drop p).length ≤ ns.length := by rw [List.length_drop]; omega
  induction m with
  | zero =>
    intro i hm hi all kv nv iv A fr G s hal hA hn H
    have hin : i = (ns.drop p).length := by omega
    have hd : (ns.drop p).drop i = [] := List.drop_eq_nil_of_le (by omega)
    rw [hd, List.nil_append]
    have hAo := over_rm (A := A) (c := c1 T L it) hf wgt (d := 7) (u := 70) (hA.le (by omega) (by omega))
    have hR : RgIn w hr hrd rt rtd dist ka npts nodes rg ha vn ns rl nl fr := rgIn_of fun q hq => hn q (hneed q hq)
    have hln : ((ns.drop p).map vi).length = (ns.drop p).length := List.length_map _
    have H1 : S (C.wg G) ((it, ListIt sl i) :: (L, NsI (frR (some (.ref hr)) kv (some (szV sv)) (some (.bool u)) (some (.ref al)) (some (vi p)) nv iv)) :: (al, AllP w u all) :: (sl, ListI ((ns.drop p).map vi)) :: fr) s :=
      H.perm (List.perm_middle (l₁ := [_, _]))
    refine sg_nx_end (C := C.wg G) (nx_list sl ((ns.drop p).map vi) hit) hAo.hd (.tail _ (.tail _ (.head _))) (by rw [hln, ← hin]; exact H1) fun s₁ H' => ?_
    refine sg_block (sg_execs1 (sg_For (F5 w C hB T hT L hr hrd rt rtd dist ka npts nodes rg ha vn) ?_))
    have hAb := over_rm (A := A) (c := .block T.o1 (T.env L)) hf wgtB (d := 7) (u := 70) (hA.le (by omega) (by omega))
    refine K5 w (C.wg G) (hB.wg G) T hT L hr hrd rt rtd dist ka npts nodes rg ha vn ns rl nl _ _ s₁ _ _ al p sv u kv nv iv hAb (hR.tl fun _ h => .tail _ (.tail _ h)) H' fun e i1 s₂ hte H2 => ?_
    refine it_enum H2 fun pp => ?_
    refine rg_loop2 (al := al) (p := p) (sv := sv) (u := u) hB hT hz hnm hneed e i1 hte _ (hf.cons (k := KRet (T.env L) _ _ _ _) wgtB) (by simp; omega) (fun c A R Y s h => sg_leaf (.ok .next) (hF _ _ _ _ _ h)) hp [(sl, ListI ((ns.drop p).map vi))] ns.length 0 rfl (Nat.zero_le _) all kv nv iv A fr G s₂ (by omega) hA hn ?_
    exact H2.perm (by show List.Perm (_ :: _ :: _ :: _ :: _ :: fr) (_ :: _ :: _ :: _ :: _ :: fr); exact (List.perm_append_comm (l₁ := [_, _]) (l₂ := [_, _])).append_right (_ :: fr))
  | succ m ih =>
    intro i hm hi all kv nv iv A fr G s hal hA hn H
    have hlt : i < (ns.drop p).length := by omega
    have hAo := over_rm (A := A) (c := c1 T L it) hf wgt (d := 7) (u := 70) (hA.le (by omega) (by omega))
    have hR : RgIn w hr hrd rt rtd dist ka npts nodes rg ha vn ns rl nl fr := rgIn_of fun q hq => hn q (hneed q hq)
    have hln : ((ns.drop p).map vi).length = (ns.drop p).length := List.length_map _
    have H1 : S (C.wg G) ((it, ListIt sl i) :: (L, NsI (frR (some (.ref hr)) kv (some (szV sv)) (some (.bool u)) (some (.ref al)) (some (vi p)) nv iv)) :: (al, AllP w u all) :: (sl, ListI ((ns.drop p).map vi)) :: fr) s :=
      H.perm (List.perm_middle (l₁ := [_, _]))
    refine sg_nx (C := C.wg G) (nx_list sl ((ns.drop p).map vi) hit) hAo.hd (by rw [hln]; exact hlt) (.tail _ (.tail _ (.head _))) H1 fun v s₁ hv H' A1 E1 hA1 => ?_
    obtain ⟨X, hX, hv⟩ := hv
    rw [List.getElem?_map, List.getElem?_eq_getElem hlt] at hX
    cases hX
    have H2 : S (C.wg G) ((L, NsI (frR (some (.ref hr)) kv (some (szV sv)) (some (.bool u)) (some (.ref al)) (some (vi p)) nv iv)) :: (al, AllP w u all) :: ([(it, ListIt sl (i + 1)), (sl, ListI ((ns.drop p).map vi))] ++ fr)) s₁ :=
      H'.perm (List.perm_middle (l₁ := [_, _])).symm
    refine KS w (C.wg G) (hB.wg G) T hT L hr hrd rt rtd dist ka npts nodes rg ha vn A1 _ s₁ _ E1 al p sv u kv nv iv _ v hv H2 fun s₂ H3 => ?_
    have hdr : ((ns.drop p).drop i ++ ns.take p).map nameF = nameF (ns.drop p)[i] :: ((ns.drop p).drop (i + 1) ++ ns.take p).map nameF := by
      rw [List.drop_eq_getElem_cons hlt, List.cons_append, List.map_cons]
    rw [hdr]
    exact rg_body1 hB hT hz hnm hneed (c1 T L it) rfl wgt fs hf (by omega) hF [(it, ListIt sl (i + 1)), (sl, ListI ((ns.drop p).map vi))] _ (ns.drop p)[i] (List.mem_of_mem_drop (List.getElem_mem hlt)) all (by omega)
      (fun all' kv nv iv A fr G s h1 h2 h3 H => ih (i + 1) (by omega) (by omega) all' kv nv iv A fr G s (by omega) h2 h3 H) nv iv A fr G s₂ hA hn H3
end

end Mc

namespace Mc
theorem rg_sc {T : RgP} (hT : T.Ok) : (T.sc.names.all fun y => y.2 != .cell) = true ∧ (T.sc.names.lookup ("self" : Str) = some NameKind.local ∧ T.sc.names.lookup ("key" : Str) = some NameKind.local ∧ T.sc.names.lookup ("size" : Str) = some NameKind.local ∧ T.sc.names.lookup ("unique" : Str) = some NameKind.local) ∧ T.sc.isCoroutine = false ∧ T.sc.isGenerator = true ∧ T.sc.kind = .function := by
  obtain rfl := hT
  dsimp only [rgT]
  exact ⟨by kernel_rfl, ⟨by kernel_rfl, by kernel_rfl, by kernel_rfl, by kernel_rfl⟩, rfl, rfl, rfl⟩
theorem rg_obj {T : RgP} (hT : T.Ok) : (fnO (f2 8 23) "HashRing.range" (.ref 303) .none .none (.str "uhashring.ring" 362) (.ref 309)).data = .func (rfd T.nm T.ps T.body T.sc) := by
  obtain rfl := hT
  rfl
/-- how range is called -/
inductive RgArgs (hr : Addr) (vk : Value) : List Value → List (Str × Value) → Value → Bool → Prop
  | one : RgArgs hr vk [.ref hr, vk] [] .none true
  | two (vz) : RgArgs hr vk [.ref hr, vk, vz] [] vz true
  | four (vz u) : RgArgs hr vk [.ref hr, vk, vz, .bool u] [] vz u
  | kw (u) : RgArgs hr vk [.ref hr, vk] [("unique", .bool u)] .none u
theorem rg_bind {T : RgP} (hT : T.Ok) {w : World} {s : Shared} (X : (hK w.params).In s.heap) {hr : Addr} {vk vz : Value} {u : Bool} {vals : List Value} {kw : List (Str × Value)} (h : RgArgs hr vk vals kw vz u) :
   ∃ binds, BindsTo s (rfd T.nm T.ps T.body T.sc) ⟨vals, kw⟩ binds ∧ (binds = [(("self" : Str), Value.ref hr), ("key", vk), ("size", vz), ("unique", .bool u)] ∨ binds = [(("self" : Str), Value.ref hr), ("key", vk), ("unique", .bool u), ("size", vz)]) := by
  obtain rfl := hT
  dsimp only [rgT]
  cases h with
  | one => exact ⟨_, binds_K X rfl rfl rfl rfl rfl, .inl rfl⟩
  | two => exact ⟨_, binds_K X rfl rfl rfl rfl rfl, .inl rfl⟩
  | four => first | exact ⟨_, binds_K X rfl rfl rfl rfl rfl, .inl rfl⟩ | exact ⟨_, BindsTo.of_eq rfl, .inl rfl⟩
  | kw => first | exact ⟨_, binds_K X rfl rfl rfl rfl rfl, .inl rfl⟩ | exact ⟨_, binds_K X rfl rfl rfl rfl rfl, .inr rfl⟩
/-- range(..): a generator of the rows -/
theorem range_gen (w : World) (C : Cx) (hB : Bs PP w (hK w.params) gl C) (hr hrd rt rtd dist ka npts nodes rg ha : Addr) (vn : Int) (hIts : List Item) (h : Str → Int) (dom : Str → Prop) (hh : ∀ G, HOk w (C.wg G) ha hIts h dom) (gk : Int → Int) (hk : ∀ G, HKey w (C.wg G) ha hIts gk)
   (ns : List Int) (hs : ns.Pairwise (· ≤ ·)) (hz : ns.length < 64) (rl : List (Int × Value)) (nl : Nl) (hzn : nl.length ≤ 900) (nameF : Int → Str) (ad : Str → Addr) (hnm : ∀ x ∈ ns, valueAt rl x = some (vs (nameF x)) ∧ valueAt (nlK nl) (nameF x) = some (.ref (ad (nameF x))))
   (A : Around) (G : Array GenState) (its : List Item) (s : Shared) (Q E : Value → Shared → Prop) (vals : List Value) (kw : List (Str × Value)) (key : Int) (t : Tok) (vz : Value) (sz : Option Int) (hvz : er vz = szV sz) (hsz : ∀ z, sz = some z → 1 ≤ z) (u : Bool) (hargs : RgArgs hr (.int key t) vals kw vz u) (hA : A.depth < recursionLimit)
   (H : S (C.wg G) its s)
   (hQ : ∀ D own G' s', GRel G.size G G' → GSt PP w C D G.size 10 80 (hIts ++ rgN w hr hrd rt rtd dist ka npts nodes rg ha vn ns rl nl) (Vr ad (rgo u (szF u sz nl.length) [] ((ns.drop (posOf ns (gk key)) ++ ns.take (posOf ns (gk key))).map nameF))) G' own → S (C.wg G') (own ++ its) s' → Q (.ref D) s') :
   wpAny (model PP w) A (call (.ref 310) vals kw) Q E s := by
  obtain ⟨T, hT⟩ := rg_ex
  obtain ⟨sc1, ⟨sc2, sc3, sc4, sc5⟩, sc6, sc7, sc8⟩ := rg_sc hT
  have hBG := hB.wg G
  obtain ⟨binds, hbd, hbs⟩ := rg_bind hT (hBG.k H) hargs
  refine wpAny_call ?_
  refine call_genL (loc := frR (some (.ref hr)) (some (vi key)) (some (szV sz)) (some (.bool u)) none none none none) H hB (hBG.k H 310 _ rfl) (rg_obj hT) (codeRec_of (hBG.k H) (by kernel_rfl)) rfl hA hbd sc1 ?_ (by kernel_rfl) ?_ ?_ sc6 sc7 sc8
  · rcases hbs with rfl | rfl <;> simp [sc2, sc3, sc4, sc5]
  · rw [← hvz]
    rcases hbs with rfl | rfl <;> rfl
  intro L D s' H'
  have hsz' : (G.push (.fresh (.func T.body (T.env L))))[G.size]? = some (.fresh (.func T.body (T.env L))) := Array.getElem?_push_size
  refine hQ D ((D, GenI G.size) :: [(L, NsI (frR (some (.ref hr)) (some (vi key)) (some (szV sz)) (some (.bool u)) none none none none))]) _ s' (GRel.push (Nat.le_refl _) rfl) ⟨_, fun _ => True, _, hsz', trivial, fun _ _ _ _ => trivial, ?_, rfl⟩ H'
  rw [Gd_iff]
  intro A' fr G' s'' hA' _ hg' hn H''
  show Sg (model PP w) A' _ _ (.func T.body (T.env L)) ((model PP w).den (.func T.body (T.env L))) [] s''
  refine sg_func (sg_pre _ 3 fun A1 E1 hA1 => ?_)
  have hAo := over_rm (A := A') (c := .func T.body (T.env L)) retFrames.nil wgtF (d := 7) (u := 70) (hA'.le (by decide) (by decide))
  have hneed : ∀ p ∈ rgN w hr hrd rt rtd dist ka npts nodes rg ha vn ns rl nl, p ∈ hIts ++ rgN w hr hrd rt rtd dist ka npts nodes rg ha vn ns rl nl := fun p hp => List.mem_append_right _ hp
  have hR : ∀ {fr : List Item}, (∀ q ∈ hIts ++ rgN w hr hrd rt rtd dist ka npts nodes rg ha vn ns rl nl, q ∈ fr) → RgIn w hr hrd rt rtd dist ka npts nodes rg ha vn ns rl nl fr := fun hn => rgIn_of fun q hq => hn q (hneed q hq)
  refine K0 w (C.wg G') (hB.wg G') T hT L hr hrd rt rtd dist ka npts nodes rg ha vn hIts h dom (hh G') gk (hk G') ns hs hz rl nl hzn A1 fr s'' _ E1 key sz hsz u (hA1 ▸ hAo) (fun p hp => hn p (List.mem_append_left _ hp)) (hR hn) H'' fun al s₂ H2 => ?_
  have hp : posOf ns (gk key) ≤ ns.length := by
    have h1 := List.length_filter_le (fun n => decide (n ≤ gk key)) ns
    unfold posOf
    split <;> omega
  generalize posOf ns (gk key) = p at *
  show Sg (model PP w) A' _ _ (.func T.body (T.env L)) ((execs [.For (.Name "key" T.kp) T.it1 T.b1 T.o1 T.fp] (T.env L)).wrap _ _ id id) [] s₂
  refine sg_execs1 (sg_For (F1 w C hB T hT L hr hrd rt rtd dist ka npts nodes rg ha vn) ?_)
  have H3 : S (C.wg G') ((L, NsI (frR (some (.ref hr)) (some (vi key)) (some (szV (szF u sz nl.length))) (some (.bool u)) (some (.ref al)) (some (vi p)) none none)) :: (al, AllP w u []) :: fr) s₂ := H2.perm (List.Perm.swap _ _ _)
  refine K1 w (C.wg G') (hB.wg G') T hT L hr hrd rt rtd dist ka npts nodes rg ha vn ns hz rl nl _ _ s₂ _ _ al p _ u _ none none hAo ((hR hn).tl fun _ h => .tail _ h) H3 fun sl s₃ H4 => ?_
  refine it_list H4 (.head _) fun it s₄ hit H5 => ?_
  intro pp
  refine rg_loop1 (al := al) (p := p) (sv := szF u sz nl.length) (u := u) hB hT hz hnm hneed it sl hit _ (retFrames.nil.cons (k := KRet (T.env L) _ _ _ _) wgtF) (by simp) (fun c A R Y s h => sg_leaf (.ok .next) (sg_end (.ok (.ret .none)) h)) hp _ 0 rfl (Nat.zero_le _) [] (some (vi key)) none none A' fr G' s₄ (Nat.le_refl _) hA' hn ?_
  exact H5.perm (by show List.Perm (_ :: _ :: _ :: _ :: fr) (_ :: _ :: _ :: _ :: fr); exact (List.perm_append_comm (l₁ := [_, _]) (l₂ := [_, _])).append_right fr)

end Mc

namespace Mc
structure ItP where
  nm : Str
  ps : Arguments
  sc : Scope
  tst : PySem.Expr
  ye0 : PySem.Expr
  y1 : Pos
  y2 : Pos
  np : Pos
  it : PySem.Expr
  ye : PySem.Expr
  y3 : Pos
  y4 : Pos
  fp : Pos
  ip : Pos
noncomputable abbrev ItP.b (T : ItP) : List Stmt := [.Expr (.Yield (some T.ye) T.y3) T.y4]
noncomputable abbrev ItP.o (T : ItP) : List Stmt := [.For (.Name "node" T.np) T.it T.b [] T.fp]
noncomputable abbrev ItP.body (T : ItP) : List Stmt := [.If T.tst [.Expr (.Yield (some T.ye0) T.y1) T.y2] T.o T.ip]
noncomputable def itT : ItP := (fun (T : ItP) (ds : List PySem.Expr) (rt : Option PySem.Expr) (tpp : List TypeParam) (ts : Option Scope) (bd : Str) (pos : Pos) (_ : f2 8 22 = .FunctionDef T.nm T.ps T.body ds rt tpp T.sc ts bd pos) => T) ⟨_, _, _, _, _, _, _, _, _, _, _, _, _, _⟩ _ _ _ _ _ _ rfl
noncomputable def ItP.Ok (T : ItP) : Prop := T = itT
noncomputable abbrev ifd (nm : Str) (ps : Arguments) (body : List Stmt) (sc : Scope) : FuncData := ⟨nm, "HashRing.iterate_nodes", ps, .stmts body, sc, 3, [], .ref 295, .none, .none, .str "uhashring.ring" 362, .none, .ref 301, .none, 0⟩
noncomputable abbrev ItP.env (T : ItP) (L : Addr) : Env := callEnv (ifd T.nm T.ps T.body T.sc) L 302
theorem it_ex : ∃ T : ItP, T.Ok := ⟨itT, rfl⟩
noncomputable abbrev frI (slf key dis node : Option Value) : List (Str × Option Value) := [("self", slf), ("key", key), ("distinct", dis), ("node", node)]
theorem it_sc {T : ItP} (hT : T.Ok) : (T.sc.names.all fun y => y.2 != .cell) = true ∧ (T.sc.names.lookup ("self" : Str) = some NameKind.local ∧ T.sc.names.lookup ("key" : Str) = some NameKind.local ∧ T.sc.names.lookup ("distinct" : Str) = some NameKind.local) ∧ T.sc.isCoroutine = false ∧ T.sc.isGenerator = true ∧ T.sc.kind = .function := by
  obtain rfl := hT
  dsimp only [itT]
  exact ⟨by kernel_rfl, ⟨by kernel_rfl, by kernel_rfl, by kernel_rfl⟩, rfl, rfl, rfl⟩
theorem it_ic {T : ItP} (hT : T.Ok) (L : Addr) : (T.env L).scope.isCoroutine = false ∧ interactive (T.env L) = false := by
  obtain rfl := hT
  dsimp only [itT]
  exact ⟨rfl, rfl⟩
theorem it_fold {T : ItP} (hT : T.Ok) (L : Addr) : ∀ x, foldedSetIterable T.it (T.env L) x = pure x := by
  obtain rfl := hT
  dsimp only [itT]
  intro x
  rfl
theorem it_obj {T : ItP} (hT : T.Ok) : (fnO (f2 8 22) "HashRing.iterate_nodes" (.ref 295) .none .none (.str "uhashring.ring" 362) (.ref 301)).data = .func (ifd T.nm T.ps T.body T.sc) := by
  obtain rfl := hT
  rfl
inductive ItArgs (hr : Addr) (vk : Value) : List Value → Bool → Prop
  | one : ItArgs hr vk [.ref hr, vk] true
  | two (u) : ItArgs hr vk [.ref hr, vk, .bool u] u
theorem it_bind {T : ItP} (hT : T.Ok) {w : World} {s : Shared} (X : (hK w.params).In s.heap) {hr : Addr} {vk : Value} {u : Bool} {vals : List Value} (h : ItArgs hr vk vals u) :
   BindsTo s (ifd T.nm T.ps T.body T.sc) ⟨vals, []⟩ [(("self" : Str), Value.ref hr), ("key", vk), ("distinct", .bool u)] := by
  obtain rfl := hT
  dsimp only [itT]
  cases h with
  | one => exact binds_K X rfl rfl rfl rfl rfl
  | two => first | exact binds_K X rfl rfl rfl rfl rfl | exact BindsTo.of_eq rfl
theorem J0 (w : World) (C : Cx) (hB : Bs PP w (hK w.params) gl C) (T : ItP) (hT : T.Ok) (L hr hrd rt rtd dist ka npts nodes rg ha : Addr) (vn : Int) (ns : List Int) (rl : List (Int × Value)) (nl : Nl) (A : Around) (its : List Item) (s : Shared) (Q : Bool → Shared → Prop) (E : Value → Shared → Prop) (key : Int) (u : Bool) (nv : Option Value) (hz : rl.length < 64) (hA : Rm A 7 70) (hR : RgIn w hr hrd rt rtd dist ka npts nodes rg ha vn ns rl nl its)
   (H : S C ((L, NsI (frI (some (.ref hr)) (some (vi key)) (some (.bool u)) nv)) :: its) s) (hQ : ∀ s', S C ((L, NsI (frI (some (.ref hr)) (some (vi key)) (some (.bool u)) nv)) :: its) s' → Q rl.isEmpty s') :
   wpAny (model PP w) A (isTrue T.tst (T.env L) (eval T.tst (T.env L))) Q E s := by
  obtain rfl := hT
  dsimp only [itT]
  have hA1 := hA
  obtain ⟨g1, g2, g3, g4, g5, g6, g7⟩ := hR
  have s3 := H.sysm (.tail _ g7)
  refine (show (let env : Env := ItP.env _ L; wpAny (model PP w) A (isTrue _ env (eval _ env)) Q E s) from ?_)
  intro env
  repeat' walk1
  have e : (!(!rl.isEmpty)) = rl.isEmpty := by cases rl <;> rfl
  rw [e]
  exact hQ _ H
theorem J1 (w : World) (C : Cx) (hB : Bs PP w (hK w.params) gl C) (T : ItP) (hT : T.Ok) (L hr hrd rt rtd dist ka npts nodes rg ha : Addr) (vn : Int) (ns : List Int) (rl : List (Int × Value)) (nl : Nl) (A : Around) (its : List Item) (s : Shared) (Q E : Value → Shared → Prop) (hQ : Q .none s) : wpAny (model PP w) A (eval T.ye0 (T.env L)) Q E s := by
  obtain rfl := hT
  dsimp only [itT]
  refine (show (let env : Env := ItP.env _ L; wpAny (model PP w) A (eval _ env) Q E s) from ?_)
  intro env
  repeat' walk1
  exact hQ
theorem J2 (w : World) (C : Cx) (hB : Bs PP w (hK w.params) gl C) (T : ItP) (hT : T.Ok) (L hr hrd rt rtd dist ka npts nodes rg ha : Addr) (vn : Int) (ns : List Int) (rl : List (Int × Value)) (nl : Nl) (A : Around) (its : List Item) (s : Shared) (Q E : Value → Shared → Prop) (key : Int) (u : Bool) (nv : Option Value) (hA : Rm A 7 70) (hR : RgIn w hr hrd rt rtd dist ka npts nodes rg ha vn ns rl nl its)
   (H : S C ((L, NsI (frI (some (.ref hr)) (some (vi key)) (some (.bool u)) nv)) :: its) s) (hQ : ∀ t s', S C ((L, NsI (frI (some (.ref hr)) (some (vi key)) (some (.bool u)) nv)) :: its) s' → wpAny (model PP w) A (call (.ref 310) [.ref hr, .int key t] [("unique", .bool u)]) Q E s') :
   wpAny (model PP w) A (eval T.it (T.env L)) Q E s := by
  obtain rfl := hT
  dsimp only [itT]
  have hA1 := hA
  obtain ⟨g1, g2, g3, g4, g5, g6, g7⟩ := hR
  refine (show (let env : Env := ItP.env _ L; wpAny (model PP w) A (eval _ env) Q E s) from ?_)
  intro env
  refine methodCall_KW ?_
  repeat' walk1
  all_goals exact hQ _ _ H
theorem J3 (w : World) (C : Cx) (hB : Bs PP w (hK w.params) gl C) (T : ItP) (hT : T.Ok) (L hr hrd rt rtd dist ka npts nodes rg ha : Addr) (vn : Int) (ns : List Int) (rl : List (Int × Value)) (nl : Nl) (A : Around) (its : List Item) (s : Shared) (Q : Unit → Shared → Prop) (E : Value → Shared → Prop) (key : Int) (u : Bool) (nv : Option Value) (v : Value) (a : Addr) (hv : er v = .ref a)
   (H : S C ((L, NsI (frI (some (.ref hr)) (some (vi key)) (some (.bool u)) nv)) :: its) s) (hQ : ∀ s', S C ((L, NsI (frI (some (.ref hr)) (some (vi key)) (some (.bool u)) (some (.ref a)))) :: its) s' → Q () s') :
   wpAny (model PP w) A (storeName (T.env L) "node" v) Q E s := by
  obtain rfl := hT
  dsimp only [itT]
  refine (show (let env : Env := ItP.env _ L; wpAny (model PP w) A (storeName env "node" v) Q E s) from ?_)
  intro env
  repeat' walk1
  exact hQ _ H
theorem J4 (w : World) (C : Cx) (hB : Bs PP w (hK w.params) gl C) (T : ItP) (hT : T.Ok) (L hr hrd rt rtd dist ka npts nodes rg ha : Addr) (vn : Int) (ns : List Int) (rl : List (Int × Value)) (nl : Nl) (A : Around) (its : List Item) (s : Shared) (Q E : Value → Shared → Prop) (key : Int) (u : Bool) (a : Addr) (kvs : List (Str × Value)) (n : Str) (hkv : valueAt kvs "nodename" = some (vs n)) (hm : (a, DictI (sk PP w) kvs none) ∈ its) (hA : Rm A 7 70)
   (H : S C ((L, NsI (frI (some (.ref hr)) (some (vi key)) (some (.bool u)) (some (.ref a)))) :: its) s) (hQ : ∀ v s', er v = vs n → S C ((L, NsI (frI (some (.ref hr)) (some (vi key)) (some (.bool u)) (some (.ref a)))) :: its) s' → Q v s') :
   wpAny (model PP w) A (eval T.ye (T.env L)) Q E s := by
  obtain rfl := hT
  dsimp only [itT]
  have hA1 := hA
  refine (show (let env : Env := ItP.env _ L; wpAny (model PP w) A (eval _ env) Q E s) from ?_)
  intro env
  repeat' walk1
  exact hQ _ _ rfl H

end Mc

namespace Mc
noncomputable abbrev c3 (T : ItP) (L it : Addr) : Code := .forLoop (.Name "node" T.np) (.ref it) T.b [] (T.env L)
section
variable {w : World} {C : Cx} (hB : Bs PP w (hK w.params) gl C) {T : ItP} (hT : T.Ok) {L hr : Addr} {ad : Str → Addr} {g g2 : Nat} (hg2 : g < g2) {need : List Item} {key : Int} {u : Bool} {D : Addr}
include hB hT hg2 in
/-- the loop over range's things -/
theorem it_loop (fs : List Frame) (hf : retFrames fs) (hfl : fs.length ≤ 1) (hF : EndF w fs) :
   ∀ (ys : List Str), (∀ n ∈ ys, ∃ kvs, (ad n, DictI (sk PP w) kvs none) ∈ need ∧ valueAt kvs "nodename" = some (vs n)) → ∀ (own : List Item) (nv : Option Value) (A : Around) (fr : List Item) (G : Array GenState) (s : Shared), Rm A 14 100 → (∀ q ∈ need, q ∈ fr) → GSt PP w C D g2 10 80 need (Vr ad ys) G own →
     S (C.wg G) (((L, NsI (frI (some (.ref hr)) (some (vi key)) (some (.bool u)) nv)) :: own) ++ fr) s →
     Sg (model PP w) A (GRe C g (ys.map vs) fr G) (GYe PP w C g 14 100 need (ys.map vs) fr G) (c3 T L D) ((model PP w).den (c3 T L D)) fs s := by
  intro ys
  induction ys with
  | nil =>
    intro hys own nv A fr G s hA hn hst H
    have hAo := over_rm (A := A) (c := c3 T L D) hf wgt (d := 10) (u := 81) (hA.le (by omega) (by omega))
    have H1 : S (C.wg G) (own ++ ((L, NsI (frI (some (.ref hr)) (some (vi key)) (some (.bool u)) nv)) :: fr)) s := H.perm List.perm_middle.symm
    refine sg_gen_end (d := 10) (u := 80) hB hAo hst (fun p hp => .tail _ (hn p hp)) H1 fun G' s' hrl H' => ?_
    refine sg_block (sg_execs_nil ?_)
    exact hF _ _ _ _ _ (GRe.fin (hrl.le (Nat.le_of_lt hg2)) H'.tail)
  | cons n ys ih =>
    intro hys own nv A fr G s hA hn hst H
    have hAo := over_rm (A := A) (c := c3 T L D) hf wgt (d := 10) (u := 81) (hA.le (by omega) (by omega))
    have H1 : S (C.wg G) (own ++ ((L, NsI (frI (some (.ref hr)) (some (vi key)) (some (.bool u)) nv)) :: fr)) s := H.perm List.perm_middle.symm
    refine sg_gen (d := 10) (u := 80) hB hAo hst (fun p hp => .tail _ (hn p hp)) H1 fun v G' own' s' hv hrl hst' H' A1 E1 hA1 => ?_
    refine J3 w (C.wg G') (hB.wg G') T hT L hr 0 0 0 0 0 0 0 0 0 0 [] [] [] A1 (own' ++ fr) s' _ E1 key u nv v (ad n) hv (H'.perm List.perm_middle) fun s₁ H2 => ?_
    obtain ⟨kvs, hm, hkv⟩ := hys n (.head _)
    obtain ⟨z1, z2⟩ := split_ret hf
    have ic := it_ic hT L
    refine sg_execs1 (sg_Yield z1 rfl z2 ?_ ic.1 ic.2)
    refine J4 w (C.wg G') (hB.wg G') T hT L hr 0 0 0 0 0 0 0 0 0 0 [] [] [] _ (own' ++ fr) s₁ _ _ key u (ad n) kvs n hkv (List.mem_append_right _ (hn _ hm)) (hAo.le (by omega) (by omega)) H2 fun v' s₂ hv' H3 => ?_
    intro gs' hbare hgo
    refine GYe.mk (vs := ys.map vs) (P' := fun G => GSt PP w C D g2 10 80 need (Vr ad ys) G own') (own' := (L, NsI (frI (some (.ref hr)) (some (vi key)) (some (.bool u)) (some (.ref (ad n))))) :: own') hv' (hrl.le (Nat.le_of_lt hg2)) hst' (fun G G' hj h => h.of fun j hj' => hj j (Nat.lt_of_lt_of_le hg2 hj')) ?_ H3
    rw [Gd_iff]
    intro A' fr' G'' s'' hA' hP' hg' hn' H''
    refine hgo _ _ _ _ ?_
    exact sg_again rfl (ih (fun n hn => hys n (.tail _ hn)) own' _ A' fr' G'' s'' hA' hn' hP' H'')
end
theorem rgo_mem {u : Bool} {sv : Option Int} {n : Str} : ∀ {ys all : List Str}, n ∈ rgo u sv all ys → n ∈ ys := by
  intro ys
  induction ys with
  | nil => exact fun h => nomatch h
  | cons y ys ih =>
    intro all h
    rw [rgo] at h
    split at h
    · exact .tail _ (ih h)
    · rcases List.mem_cons.mp h with rfl | h
      · exact .head _
      · split at h
        · exact nomatch h
        · exact .tail _ (ih h)
/-- iterate_nodes(..): a generator of the names -/
theorem iter_gen (w : World) (C : Cx) (hB : Bs PP w (hK w.params) gl C) (hr hrd rt rtd dist ka npts nodes rg ha : Addr) (vn : Int) (hIts : List Item) (h : Str → Int) (dom : Str → Prop) (hh : ∀ G, HOk w (C.wg G) ha hIts h dom) (gk : Int → Int) (hk : ∀ G, HKey w (C.wg G) ha hIts gk)
   (ns : List Int) (hs : ns.Pairwise (· ≤ ·)) (hz : ns.length < 64) (rl : List (Int × Value)) (hzr : rl.length < 64) (nl : Nl) (hzn : nl.length ≤ 900) (nameF : Int → Str) (ad : Str → Addr) (hnm : ∀ x ∈ ns, valueAt rl x = some (vs (nameF x)) ∧ valueAt (nlK nl) (nameF x) = some (.ref (ad (nameF x))))
   (need : List Item) (hneed : ∀ p ∈ hIts ++ rgN w hr hrd rt rtd dist ka npts nodes rg ha vn ns rl nl, p ∈ need) (hrow : ∀ x ∈ ns, ∃ kvs, (ad (nameF x), DictI (sk PP w) kvs none) ∈ need ∧ valueAt kvs "nodename" = some (vs (nameF x)))
   (A : Around) (G : Array GenState) (its : List Item) (s : Shared) (Q E : Value → Shared → Prop) (vals : List Value) (key : Int) (t : Tok) (u : Bool) (hargs : ItArgs hr (.int key t) vals u) (hA : A.depth < recursionLimit)
   (H : S (C.wg G) its s)
   (hQ : ∀ D own G' s', GRel G.size G G' → GSt PP w C D G.size 14 100 need (if rl.isEmpty = true then [.none] else (rgo u (szF u none nl.length) [] ((ns.drop (posOf ns (gk key)) ++ ns.take (posOf ns (gk key))).map nameF)).map vs) G' own → S (C.wg G') (own ++ its) s' → Q (.ref D) s') :
   wpAny (model PP w) A (call (.ref 302) vals) Q E s := by
  obtain ⟨T, hT⟩ := it_ex
  obtain ⟨sc1, ⟨sc2, sc3, sc4⟩, sc6, sc7, sc8⟩ := it_sc hT
  have hBG := hB.wg G
  refine wpAny_call ?_
  refine call_genL (loc := frI (some (.ref hr)) (some (vi key)) (some (.bool u)) none) H hB (hBG.k H 302 _ rfl) (it_obj hT) (codeRec_of (hBG.k H) (by kernel_rfl)) rfl hA (it_bind hT (hBG.k H) hargs) sc1 (by simp [sc2, sc3, sc4]) (by kernel_rfl) rfl ?_ sc6 sc7 sc8
  intro L D s' H'
  have hsz' : (G.push (.fresh (.func T.body (T.env L))))[G.size]? = some (.fresh (.func T.body (T.env L))) := Array.getElem?_push_size
  refine hQ D ((D, GenI G.size) :: [(L, NsI (frI (some (.ref hr)) (some (vi key)) (some (.bool u)) none))]) _ s' (GRel.push (Nat.le_refl _) rfl) ⟨_, fun _ => True, _, hsz', trivial, fun _ _ _ _ => trivial, ?_, rfl⟩ H'
  rw [Gd_iff]
  intro A' fr G' s'' hA' _ hg' hn H''
  show Sg (model PP w) A' _ _ (.func T.body (T.env L)) ((model PP w).den (.func T.body (T.env L))) [] s''
  have hAo := over_rm (A := A') (c := .func T.body (T.env L)) retFrames.nil wgtF (d := 10) (u := 80) (hA'.le (by decide) (by decide))
  have hR : ∀ {fr : List Item}, (∀ q ∈ need, q ∈ fr) → RgIn w hr hrd rt rtd dist ka npts nodes rg ha vn ns rl nl fr := fun hn => rgIn_of fun q hq => hn q (hneed q (List.mem_append_right _ hq))
  have ic := it_ic hT L
  refine sg_func (sg_execs1 (sg_If ?_))
  refine J0 w (C.wg G') (hB.wg G') T hT L hr hrd rt rtd dist ka npts nodes rg ha vn ns rl nl _ fr s'' _ _ key u none hzr (hAo.le (by decide) (by decide)) (hR hn) H'' fun s₁ H1 => ?_
  cases hre : rl.isEmpty with
  | true =>
    rw [if_pos rfl, if_pos rfl]
    refine sg_execs1 (sg_Yield rfl rfl rfl ?_ ic.1 ic.2)
    refine J1 w (C.wg G') (hB.wg G') T hT L hr hrd rt rtd dist ka npts nodes rg ha vn ns rl nl _ fr s₁ _ _ ?_
    intro gs' hbare hgo
    refine GYe.mk (vs := []) (P' := fun _ => True) (own' := [(L, NsI (frI (some (.ref hr)) (some (vi key)) (some (.bool u)) none))]) rfl GRel.refl trivial (fun _ _ _ _ => trivial) ?_ H1
    rw [Gd_iff]
    intro A2 fr2 G2 s₂ hA2 _ hg2 hn2 H2
    refine hgo _ _ _ _ ?_
    exact sg_end (.ok (.ret .none)) (GRe.fin GRel.refl H2.tail)
  | false =>
    rw [if_neg Bool.false_ne_true, if_neg Bool.false_ne_true]
    refine sg_execs1 (sg_For (it_fold hT L) ?_)
    refine J2 w (C.wg G') (hB.wg G') T hT L hr hrd rt rtd dist ka npts nodes rg ha vn ns rl nl _ fr s₁ _ _ key u none (hAo.le (by decide) (by decide)) (hR hn) H1 fun t₂ s₂ H2 => ?_
    refine range_gen w C hB hr hrd rt rtd dist ka npts nodes rg ha vn hIts h dom hh gk hk ns hs hz rl nl hzn nameF ad hnm _ G' _ s₂ _ _ _ _ key t₂ .none none rfl (fun z h => nomatch h) u (.kw u) hAo.room H2 fun D2 own2 G2 s₃ hr2 hst2 H3 => ?_
    have hmem := hst2.mem
    refine wpAny_pyIter_gen (GenI.at H3 (List.mem_append_left _ hmem)) ?_
    intro pp
    refine Sg.back (G := G2) ?_ (hr2.le (Nat.le_of_lt hg'))
    refine it_loop (ad := ad) (g2 := G'.size) hB hT hg' _ (retFrames.nil.cons (k := KRet (T.env L) _ _ _ _) wgtF) (by simp) (fun c A R Y s h => sg_leaf (.ok .next) (sg_end (.ok (.ret .none)) h)) _ (fun n hn' => ?_) own2 none A' fr G2 s₃ hA' hn ?_ (H3.perm List.perm_middle)
    · have hm' := rgo_mem hn'
      obtain ⟨x, hx, rfl⟩ := List.mem_map.mp hm'
      refine hrow x ?_
      rcases List.mem_append.mp hx with hx | hx
      · exact List.mem_of_mem_drop hx
      · exact List.mem_of_mem_take hx
    · exact hst2.need hneed

end Mc

namespace Mc
/-- the ground on which the law's call stands -/
theorem bs_of {w : World} {s₁ : Shared} {mg mb : Str → Option Value} {loose : List Str} {mean : ExcName → Option Value} {p : Program} (KX : (hK w.params).In s₁.heap) (T : Top p loose mean mg mb s₁.heap) :
    Bs PP w (hK w.params) gl ⟨s₁.heap, [89, 405], s₁.os, #[]⟩ where
  X := KX
  tk := by
    intro a ha
    rcases List.mem_cons.mp ha with rfl | ha
    · kernel_rfl
    rcases List.mem_cons.mp ha with rfl | ha
    · kernel_rfl
    cases ha
  names := by
    refine ⟨mg, mb, T.g, T.b, fun q hq => ?_⟩
    have hb : ∀ (x : Str) (v : Value), nsIn (hK w.params) mainGlobals x = some none → x ≠ "__name__" → bootBuiltins x = some v → mg x = some v ∨ (mg x = none ∧ mb x = some v) := fun x v h1 h2 h3 =>
      .inr ⟨PySem.W.mg_none_of KX T.g h1, (T.builtins x h2).trans h3⟩
    have hg : ∀ (x : Str) (v : Value), nsIn (hK w.params) mainGlobals x = some (some v) → mg x = some v ∨ (mg x = none ∧ mb x = some v) := fun x v h1 => .inl (mg_of KX T.g h1)
    repeat (rcases List.mem_cons.mp hq with rfl | hq; first | exact hg _ _ (by kernel_rfl!) | exact hb _ _ (by kernel_rfl!) (by decide +kernel) (by decide +kernel))
    cases hq
  lim := T.nolimit
  dig := T.nodigits
  lo := by
    intro a ha
    rcases List.mem_cons.mp ha with rfl | ha
    · decide
    rcases List.mem_cons.mp ha with rfl | ha
    · decide
    cases ha
theorem s_of {s₁ : Shared} {mg mb : Str → Option Value} {loose : List Str} {mean : ExcName → Option Value} {p : Program} (T : Top p loose mean mg mb s₁.heap) (hT8 : ∀ P ∈ ([89, 405] : List Addr), s₁.heap.get? P = some (tabObj #[])) (hg : s₁.gens = #[]) :
    S ⟨s₁.heap, [89, 405], s₁.os, #[]⟩ [(89, TabI #[]), (405, TabI #[])] s₁ where
  keep := fun _ _ h _ => h
  own := by
    intro q hq
    rcases List.mem_cons.mp hq with rfl | hq
    · exact ⟨_, hT8 89 (.head _), rfl⟩
    rcases List.mem_cons.mp hq with rfl | hq
    · exact ⟨_, hT8 405 (.tail _ (.head _)), rfl⟩
    cases hq
  new := by
    intro q hq
    rcases List.mem_cons.mp hq with rfl | hq
    · exact .inr (.head _)
    rcases List.mem_cons.mp hq with rfl | hq
    · exact .inr (.tail _ (.head _))
    cases hq
  nd := by simp
  tbs := fun a ha => ⟨_, hT8 a ha⟩
  gens := hg
  os := rfl
  big := by
    obtain ⟨o, es, ep, ho, _⟩ := T.g
    exact ⟨3, o, by decide, ho, by show ¬ ((3:Nat) ∈ [89, 405]); decide⟩
  n1 := by decide

end Mc

namespace Mc
/-- the last def of a module -/
noncomputable def lastB : List Stmt → List Stmt
  | [] => []
  | [.FunctionDef _ _ b _ _ _ _ _ _ _] => b
  | _ :: r => lastB r
/-- the law's inner def -/
noncomputable def choOf : Option Stmt := (lastB PP.main.body)[2]?
noncomputable def chp (key : Str) (i : Nat) : Int := ((key.cps[i]?).getD 0 : Nat)
noncomputable def choH (F : Int) (key : Str) : Int := 2 * (((chp key 0 - 97) * 9 + chp key 2 - 47) * F % 101)
noncomputable def choDom (key : Str) : Prop := ∃ a b c r, key.cps.toList = a :: b :: c :: r ∧ a < 200 ∧ c < 200
noncomputable abbrev choIts (ha cc c' : Addr) (F : Int) (fd : FuncData) : List Item := [(ha, FnI fd), (c', CodeI fd.qualname), (cc, CellI (some (.int F 0)))]
theorem item0 (a b c : Nat) (r : List Nat) : (Txt.item { cps := { toList := a :: b :: c :: r } } 0).cps.getD 0 0 = a := by
  simp [Txt.item, Txt.charAt, seqIndex?, Str.length]
  rw [if_pos (by omega)]
  simp
theorem item2 (a b c : Nat) (r : List Nat) : (Txt.item { cps := { toList := a :: b :: c :: r } } 2).cps.getD 0 0 = c := by
  simp [Txt.item, Txt.charAt, seqIndex?, Str.length]
  try (rw [if_pos (by omega)])
  try simp
theorem cho_key (w : World) (C : Cx) (hB : Bs PP w (hK w.params) gl C) (ha cc c' : Addr) (F : Int) (name qual : Str) (params : Arguments) (body : List Stmt) (ds : List Expr) (rt : Option Expr) (tp : List TypeParam) (scope : Scope) (ts : Option Scope) (bd : Str) (pos : Pos) (doc pm ctv : Value)
    (hc : choOf = some (.FunctionDef name params body ds rt tp scope ts bd pos)) :
    HKey w C ha (choIts ha cc c' F (fnX name qual params body scope [("factor", cc)] .none .none doc pm none (.ref c') ctv)) (fun k => 2 * k + 1) := by
  cases hc
  intro A its s Q E key t hA H hi hQ
  have i1 := hi _ (.head _)
  have i2 := hi _ (.tail _ (.head _))
  have i3 := hi _ (.tail _ (.tail _ (.head _)))
  obtain ⟨o, ho, hF⟩ := H.get i1
  cases hF
  refine wpAny_call ?_
  refine call_fnL H hB ho rfl (H.codeRec i2) rfl hA (BindsTo.of_eq rfl) (by kernel_rfl) (by kernel_rfl) (loc := [("key", some (.int key 0))]) (by kernel_rfl) rfl ?_
  intro L s A1 E1 hA1 H env
  repeat' walk1
  have H' := H.tail
  exact hQ _ _ (S.tkTo H' rfl rfl rfl)
theorem cho_str (w : World) (C : Cx) (hB : Bs PP w (hK w.params) gl C) (ha cc c' : Addr) (F : Int) (name qual : Str) (params : Arguments) (body : List Stmt) (ds : List Expr) (rt : Option Expr) (tp : List TypeParam) (scope : Scope) (ts : Option Scope) (bd : Str) (pos : Pos) (doc pm ctv : Value)
    (hF0 : 0 ≤ F) (hF1 : F ≤ 100) (hc : choOf = some (.FunctionDef name params body ds rt tp scope ts bd pos)) :
    HOk w C ha (choIts ha cc c' F (fnX name qual params body scope [("factor", cc)] .none .none doc pm none (.ref c') ctv)) (choH F) choDom := by
  cases hc
  refine ⟨fun its s H hi => ?_, ?_⟩
  · obtain ⟨o, ho, hF⟩ := H.get (hi _ (.head _))
    cases hF
    exact ⟨_, _, _, _, ho⟩
  intro A its s Q E key t hd hA H hi hQ
  have i1 := hi _ (.head _)
  have i2 := hi _ (.tail _ (.head _))
  have i3 := hi _ (.tail _ (.tail _ (.head _)))
  obtain ⟨o, ho, hF⟩ := H.get i1
  cases hF
  refine wpAny_call ?_
  refine call_fnL H hB ho rfl (H.codeRec i2) rfl hA (BindsTo.of_eq rfl) (by kernel_rfl) (by kernel_rfl) (loc := [("key", some (.str key 0))]) (by kernel_rfl) rfl ?_
  intro L s A1 E1 hA1 H env
  obtain ⟨a, b, c, r, hk, ka, kc⟩ := hd
  obtain ⟨cps⟩ := key
  obtain ⟨cps⟩ := cps
  cases hk
  have e0 : (Txt.item { cps := { toList := a :: b :: c :: r } } 0).cps.getD 0 0 = a := item0 a b c r
  have e2 : (Txt.item { cps := { toList := a :: b :: c :: r } } 2).cps.getD 0 0 = c := item2 a b c r
  repeat' walk1
  rw [e0, e2, Int.fmod_eq_emod_of_nonneg _ (by decide)]
  have H' := H.tail
  exact hQ _ _ (S.tkTo H' rfl rfl rfl)

end Mc

namespace Mc
theorem Up.same {a : Addr} {P : Obj → Prop} {l l' : List Item} (h : Up a P P l l') : l' = l := by
  induction h with
  | head => rfl
  | tail _ ih => rw [ih]
theorem take_law (w : World) (C : Cx) (hB : Bs PP w (hK w.params) gl C) (box : Addr) (xs : List Int) (hz : xs.length ≤ 1000)
   (A : Around) (its its' : List Item) (s : Shared) (Q E : Value → Shared → Prop) (hA : Rm A 3 20) (H : S C its s) (hU : Up box (ListI (xs.map vi)) (ListI (xs.tail.map vi)) its its')
   (hQ : ∀ t' s', S C its' s' → Q (.int (xs.headD 0) t') s') : wpAny (model PP w) A (call (.ref 403) [.ref box]) Q E s := by
  refine wpAny_call ?_
  refine call_fnL H hB (hB.k H 403 _ rfl) rfl (codeRec_of (hB.k H) (by kernel_rfl)) rfl hA (BindsTo.of_eq rfl) (by kernel_rfl) (by kernel_rfl) (loc := [("box", some (.ref box))]) (by kernel_rfl) rfl ?_
  intro L s A1 E1 hA1 H env
  have hm := hU.mem
  cases xs with
  | nil =>
    repeat' walk1
    refine hQ _ _ ?_
    have H' := H.tail
    have e : its' = its := Up.same hU
    subst e
    exact S.tkTo H' rfl rfl rfl
  | cons x xs =>
    have hz' : xs.length ≤ 999 := by simpa using hz
    have hne : ¬ ((((x :: xs).map vi).length : Nat) : Int) = 0 := by simp; omega
    repeat' walk1
    · exact absurd (by assumption) hne
    refine r_pop0 (X := vi x) (vs := xs.map vi) (its' := (L, NsI [("box", some (.ref box))]) :: its') (by walk_at "st") (Up.tail hU) (by simp; omega) fun s H => ?_
    refine Ret.int fun t => ?_
    exact hQ _ _ H.tail

end Mc

namespace Mc
theorem valueAt_stored_ne {α : Type} [DecidableEq α] {l : List (α × Value)} {k j : α} {v : Value} (h : j ≠ k) : valueAt (stored l k v) j = valueAt l j := by
  unfold stored
  split
  · unfold valueAt
    rw [List.find?_map]
    have : ((fun kv : α × Value => decide (kv.1 = j)) ∘ fun kv => if kv.1 = k then (kv.1, v) else kv) = fun kv => decide (kv.1 = j) := by
      funext p; simp only [Function.comp]; split <;> rfl
    rw [this]
    cases e : l.find? fun kv => decide (kv.1 = j) with
    | none => rfl
    | some p =>
      have e2 := List.find?_some e
      have : p.1 = j := of_decide_eq_true e2
      simp only [Option.map_some]
      rw [if_neg (by rw [this]; exact h)]
  · exact valueAt_app_ne h
theorem valueAt_without_self {α : Type} [DecidableEq α] {l : List (α × Value)} {k : α} : valueAt (without l k) k = none := valueAt_none fun h => (without_keys.mp h).2 rfl
theorem valueAt_dropP {n : Str} {rl : List (Int × Value)} {p q : Int} : valueAt (dropP n rl p) q = if q = p ∧ valueAt rl q = some (vs n) then none else valueAt rl q := by
  unfold dropP
  by_cases h : valueAt rl p = some (vs n)
  · rw [if_pos h]
    by_cases e : q = p
    · subst e; rw [if_pos ⟨rfl, h⟩]; exact valueAt_without_self
    · rw [if_neg fun z => e z.1]; exact valueAt_without e
  · rw [if_neg h, if_neg]
    rintro ⟨rfl, h2⟩; exact h h2
theorem valueAt_dropPs {n : Str} {q : Int} : ∀ {ps : List Int} {rl : List (Int × Value)}, valueAt (ps.foldl (dropP n) rl) q = if q ∈ ps ∧ valueAt rl q = some (vs n) then none else valueAt rl q
  | [], rl => by simp
  | p :: ps, rl => by
    rw [List.foldl_cons, valueAt_dropPs, valueAt_dropP]
    by_cases h1 : q = p <;> by_cases h2 : valueAt rl q = some (vs n) <;> by_cases h3 : q ∈ ps <;> simp [h1, h2, h3]
    all_goals (subst h1; simp [h2])
theorem valueAt_layR {h : Str → Int} {n : Str} {q : Int} {rl : List (Int × Value)} : ∀ {c : Nat}, valueAt (layR h n c rl) q = if q ∈ (List.range c).map (fun k => h (keyN n k)) then some (vs n) else valueAt rl q
  | 0 => by simp [layR]
  | c + 1 => by
    rw [layR_step]
    by_cases e : q = h (keyN n c)
    · subst e
      rw [valueAt_stored, if_pos]
      rw [List.range_succ, List.map_append]; simp
    · rw [valueAt_stored_ne e, valueAt_layR, List.range_succ, List.map_append]
      simp only [List.mem_append, List.map_cons, List.map_nil, List.mem_singleton, e, or_false]
/-- which nodes have laid their points, with how many -/
structure MR (h : Str → Int) (m : MS) (P : Str → Nat → Prop) : Prop where
  pt : ∀ p X, valueAt m.rl p = some X ↔ ∃ n c k, P n c ∧ k < c ∧ p = h (keyN n k) ∧ X = vs n
  pls : ∀ n, n ∈ m.pl.map (·.1) ↔ ∃ c, P n c
  plo : ∀ n c, P n c → olds m.pl n = (List.range c).map fun k => h (keyN n k)
/-- which nodes there are, with how many points -/
structure Ring (h : Str → Int) (st : RS) (P : Str → Nat → Prop) : Prop where
  ok : StOk st
  mr : MR h st.m P
  nls : ∀ n, n ∈ st.nl.map (·.1) ↔ ∃ c, P n c
/-- the hash keeps the points of nodes apart -/
noncomputable def Apart (h : Str → Int) (D : Str → Nat → Prop) : Prop := ∀ n k n' k', D n k → D n' k' → h (keyN n k) = h (keyN n' k') → n = n' ∧ k = k'
noncomputable def addP (P : Str → Nat → Prop) (name : Str) (cnt : Nat) (n : Str) (c : Nat) : Prop := (n = name ∧ c = cnt) ∨ (n ≠ name ∧ P n c)
noncomputable def rmP (P : Str → Nat → Prop) (name : Str) (n : Str) (c : Nat) : Prop := n ≠ name ∧ P n c
theorem olds_other {pl : Pl} {name n : Str} (hne : n ≠ name) : olds (plW pl name) n = olds pl n := by
  unfold olds plW
  rw [List.find?_filter]
  congr 3
  funext p
  by_cases q : p.1 = n
  · simp [q, hne]
  · simp [q]
theorem olds_app {pl : Pl} {name n : Str} {a : Addr} {ps : List Int} (hne : n ≠ name) : olds (pl ++ [(name, a, ps)]) n = olds pl n := by
  unfold olds
  rw [List.find?_append]
  have : (List.find? (fun p : Str × Addr × List Int => decide (p.1 = n)) [(name, a, ps)]) = none := by simp [Ne.symm hne]
  rw [this, Option.or_none]
theorem olds_last {pl : Pl} {name : Str} {a : Addr} {ps : List Int} (h : name ∉ pl.map (·.1)) : olds (pl ++ [(name, a, ps)]) name = ps := by
  unfold olds
  rw [List.find?_append, List.find?_eq_none.mpr fun p hp e => h (by rw [← of_decide_eq_true e]; exact List.mem_map_of_mem (f := (·.1)) hp)]
  simp
theorem plW_keys {pl : Pl} {name n : Str} : n ∈ (plW pl name).map (·.1) ↔ n ∈ pl.map (·.1) ∧ n ≠ name := by
  have := without_keys (l := plK pl) (k := name) (j := n)
  rw [plK_without, plK_keys, plK_keys] at this
  exact this
theorem nlSet_keys' {nl : Nl} {name n : Str} {a : Addr} {c : Cf} : n ∈ (nlSet nl name a c).map (·.1) ↔ n = name ∨ n ∈ nl.map (·.1) := by
  rw [nlSet_keys]
  split
  · rename_i h
    have h := List.contains_iff_mem.mp h
    constructor
    · exact .inr
    · rintro (rfl | q)
      · exact h
      · exact q
  · rw [List.mem_append, List.mem_singleton, or_comm]
theorem nlW_keys {nl : Nl} {name n : Str} : n ∈ (nlW nl name).map (·.1) ↔ n ∈ nl.map (·.1) ∧ n ≠ name := by
  have := without_keys (l := nlK nl) (k := name) (j := n)
  rw [nlK_without, nlK_keys, nlK_keys] at this
  exact this
theorem MR.drop {h : Str → Int} {m : MS} {P : Str → Nat → Prop} {D : Str → Nat → Prop} (r : MR h m P) (hD : Apart h D) (hPD : ∀ n c k, P n c → k < c → D n k) (name : Str) (p : Int) (X : Value) :
    valueAt ((olds m.pl name).foldl (dropP name) m.rl) p = some X ↔ ∃ n c k, rmP P name n c ∧ k < c ∧ p = h (keyN n k) ∧ X = vs n := by
  rw [valueAt_dropPs]
  constructor
  · intro e
    split at e
    · cases e
    · rename_i hn
      obtain ⟨n, c, k, h1, h2, h3, h4⟩ := (r.pt p X).mp e
      refine ⟨n, c, k, ⟨fun q => hn ⟨?_, ?_⟩, h1⟩, h2, h3, h4⟩
      · rw [← q, r.plo n c h1, h3]
        exact List.mem_map.mpr ⟨k, List.mem_range.mpr h2, rfl⟩
      · rw [e, h4, q]
  · rintro ⟨n, c, k, ⟨h0, h1⟩, h2, h3, h4⟩
    have e := (r.pt p X).mpr ⟨n, c, k, h1, h2, h3, h4⟩
    rw [if_neg, e]
    rintro ⟨_, q⟩
    rw [e, h4] at q
    simp [vs] at q
    exact h0 q
theorem MR.add {h : Str → Int} {m : MS} {P : Str → Nat → Prop} {D : Str → Nat → Prop} (r : MR h m P) (hD : Apart h D) (hPD : ∀ n c k, P n c → k < c → D n k) {name : Str} {cnt : Nat} (hn : ∀ k, k < cnt → D name k) (pa : Addr) : MR h (layF h name cnt pa m) (addP P name cnt) := by
  refine ⟨fun p X => ?_, fun n => ?_, fun n c' hc => ?_⟩
  · show valueAt (layR h name cnt _) p = some X ↔ _
    rw [valueAt_layR]
    constructor
    · intro e
      split at e
      · rename_i hm
        obtain ⟨k, hk, rfl⟩ := List.mem_map.mp hm
        cases e
        exact ⟨name, cnt, k, .inl ⟨rfl, rfl⟩, List.mem_range.mp hk, rfl, rfl⟩
      · obtain ⟨n, c', k, ⟨h0, h1⟩, h2, h3, h4⟩ := (r.drop hD hPD name p X).mp e
        exact ⟨n, c', k, .inr ⟨h0, h1⟩, h2, h3, h4⟩
    · rintro ⟨n, c', k, hp, h2, h3, h4⟩
      rcases hp with ⟨rfl, rfl⟩ | ⟨h0, h1⟩
      · rw [if_pos, h4]
        rw [h3]; exact List.mem_map.mpr ⟨k, List.mem_range.mpr h2, rfl⟩
      · rw [if_neg]
        · exact (r.drop hD hPD name p X).mpr ⟨n, c', k, ⟨h0, h1⟩, h2, h3, h4⟩
        · intro hm
          obtain ⟨k', hk, e⟩ := List.mem_map.mp hm
          exact h0 (hD _ _ _ _ (hPD n c' k h1 h2) (hn k' (List.mem_range.mp hk)) (h3.symm.trans e.symm)).1
  · show n ∈ (plW m.pl name ++ _).map _ ↔ _
    rw [List.map_append, List.mem_append, plW_keys, r.pls]
    constructor
    · rintro (⟨⟨c', h1⟩, h2⟩ | h1)
      · exact ⟨c', .inr ⟨h2, h1⟩⟩
      · simp at h1; exact ⟨cnt, .inl ⟨h1, rfl⟩⟩
    · rintro ⟨c', ⟨h1, _⟩ | ⟨h1, h2⟩⟩
      · exact .inr (by simp [h1])
      · exact .inl ⟨⟨c', h2⟩, h1⟩
  · show olds (plW m.pl name ++ _) n = _
    rcases hc with ⟨rfl, rfl⟩ | ⟨h1, h2⟩
    · exact olds_last plW_not
    · rw [olds_app h1, olds_other h1]; exact r.plo n c' h2
theorem Ring.add {h : Str → Int} {st : RS} {P : Str → Nat → Prop} {D : Str → Nat → Prop} (r : Ring h st P) (hD : Apart h D) (hPD : ∀ n c k, P n c → k < c → D n k) {name : Str} {cnt : Nat} (hn : ∀ k, k < cnt → D name k) {pa a ka : Addr} {c : Cf} {ns : List Int}
    (ok : StOk ⟨layF h name cnt pa st.m, nlSet st.nl name a c, ka, ns⟩) : Ring h ⟨layF h name cnt pa st.m, nlSet st.nl name a c, ka, ns⟩ (addP P name cnt) := by
  refine ⟨ok, r.mr.add hD hPD hn pa, fun n => ?_⟩
  show n ∈ (nlSet st.nl name a c).map _ ↔ _
  rw [nlSet_keys', r.nls]
  constructor
  · rintro (h1 | ⟨c', h1⟩)
    · exact ⟨cnt, .inl ⟨h1, rfl⟩⟩
    · by_cases q : n = name
      · exact ⟨cnt, .inl ⟨q, rfl⟩⟩
      · exact ⟨c', .inr ⟨q, h1⟩⟩
  · rintro ⟨c', ⟨h1, _⟩ | ⟨_, h2⟩⟩
    · exact .inl h1
    · exact .inr ⟨c', h2⟩
theorem Ring.rm {h : Str → Int} {st : RS} {P : Str → Nat → Prop} {D : Str → Nat → Prop} (r : Ring h st P) (hD : Apart h D) (hPD : ∀ n c k, P n c → k < c → D n k) {name : Str} {ka : Addr} {ns : List Int}
    (ok : StOk ⟨rmF name st.m, nlW st.nl name, ka, ns⟩) : Ring h ⟨rmF name st.m, nlW st.nl name, ka, ns⟩ (rmP P name) := by
  refine ⟨ok, ⟨fun p X => r.mr.drop hD hPD name p X, fun n => ?_, fun n c' hc => ?_⟩, fun n => ?_⟩
  · show n ∈ (plW st.m.pl name).map _ ↔ _
    rw [plW_keys, r.mr.pls]
    exact ⟨fun ⟨⟨c, h1⟩, h2⟩ => ⟨c, h2, h1⟩, fun ⟨c, h2, h1⟩ => ⟨⟨c, h1⟩, h2⟩⟩
  · show olds (plW st.m.pl name) n = _
    rw [olds_other hc.1]; exact r.mr.plo n c' hc.2
  · show n ∈ (nlW st.nl name).map _ ↔ _
    rw [nlW_keys, r.nls]
    exact ⟨fun ⟨⟨c, h1⟩, h2⟩ => ⟨c, h2, h1⟩, fun ⟨c, h2, h1⟩ => ⟨⟨c, h1⟩, h2⟩⟩
/-- the nodes of a list, in order -/
noncomputable def elP (els : List El) (n : Str) (c : Nat) : Prop := ∃ e ∈ els, e.name = n ∧ e.cnt = c
theorem MR.lays {h : Str → Int} {D : Str → Nat → Prop} (hD : Apart h D) {els : List El} {m : MS} (hl : Lays h ⟨[], [], []⟩ els m) (nd : (els.map (·.name)).Nodup) (hd : ∀ e ∈ els, ∀ k, k < e.cnt → D e.name k) : MR h m (elP els) := by
  induction hl with
  | nil =>
    refine ⟨fun p X => ?_, fun n => ?_, fun n c h => ?_⟩
    · simp [valueAt, elP]
    · simp [elP]
    · obtain ⟨e, he, _⟩ := h; cases he
  | @snoc es e a m' hl ih =>
    rw [List.map_append, List.nodup_append] at nd
    have ih := ih nd.1 fun e he => hd e (List.mem_append_left _ he)
    have hn : ∀ k, k < e.cnt → D e.name k := hd e (by simp)
    have r := ih.add hD (fun n c k ⟨e', he', h1, h2⟩ hk => by subst h1 h2; exact hd e' (List.mem_append_left _ he') k hk) hn a
    have e1 : addP (elP es) e.name e.cnt = elP (es ++ [e]) := by
      funext n c
      apply propext
      constructor
      · rintro (⟨rfl, rfl⟩ | ⟨_, e', he', h1⟩)
        · exact ⟨e, by simp, rfl, rfl⟩
        · exact ⟨e', List.mem_append_left _ he', h1⟩
      · rintro ⟨e', he', rfl, rfl⟩
        rcases List.mem_append.mp he' with he' | he'
        · exact .inr ⟨fun q => nd.2.2 _ (List.mem_map_of_mem (f := (·.name)) he') _ (.head _) q, e', he', rfl, rfl⟩
        · rw [List.mem_singleton] at he'; subst he'; exact .inl ⟨rfl, rfl⟩
    rw [← e1]
    exact r
theorem Confs.mem {vn : Int} {nds nl b} (h : Confs vn [] nds nl b) (hn : (nds.map (·.name)).Nodup) (n : Str) (c : Cf) : (∃ a, (n, a, c) ∈ nl) ↔ ∃ nd ∈ nds, nd.name = n ∧ confOf vn nd.name nd.nc = c := by
  induction h with
  | nil => simp
  | @snoc nds nd nl' b a h ih =>
    rw [List.map_append, List.nodup_append] at hn
    have ih := ih hn.1
    have hk := h.keys hn.1
    have hx : nd.name ∉ nl'.map (·.1) := by
      rw [hk]; exact fun q => hn.2.2 _ q _ (.head _) rfl
    rw [nlSet_new hx]
    constructor
    · rintro ⟨a', hm⟩
      rcases List.mem_append.mp hm with hm | hm
      · obtain ⟨nd', h1, h2⟩ := ih.mp ⟨a', hm⟩
        exact ⟨nd', List.mem_append_left _ h1, h2⟩
      · rw [List.mem_singleton] at hm
        cases hm
        exact ⟨nd, by simp, rfl, rfl⟩
    · rintro ⟨nd', h1, h2⟩
      rcases List.mem_append.mp h1 with h1 | h1
      · obtain ⟨a', hm⟩ := ih.mpr ⟨nd', h1, h2⟩
        exact ⟨a', List.mem_append_left _ hm⟩
      · rw [List.mem_singleton] at h1
        subst h1
        obtain ⟨rfl, rfl⟩ := h2
        exact ⟨a, by simp⟩
/-- the nodes that a dict or a list tells -/
noncomputable def ndP (vn : Int) (nds : List Nd) (n : Str) (c : Nat) : Prop := ∃ nd ∈ nds, nd.name = n ∧ ((confOf vn nd.name nd.nc).v * (confOf vn nd.name nd.nc).wt - 0).toNat = c
theorem Ring.init {h : Str → Int} {D : Str → Nat → Prop} (hD : Apart h D) {vn : Int} {nds : List Nd} {st : RS} (hc : ∃ b, Confs vn [] nds st.nl b) (hl : Lays h ⟨[], [], []⟩ (elsOf st.nl) st.m) (ok : StOk st) (hn : (nds.map (·.name)).Nodup)
    (hd : ∀ nd ∈ nds, ∀ k, k < ((confOf vn nd.name nd.nc).v * (confOf vn nd.name nd.nc).wt - 0).toNat → D nd.name k) : Ring h st (ndP vn nds) := by
  obtain ⟨b, hc⟩ := hc
  have hm := hc.mem hn
  have hk := hc.keys hn
  have hnd : ((elsOf st.nl).map (·.name)).Nodup := by
    have : (elsOf st.nl).map (·.name) = nds.map (·.name) := by rw [← hk]; unfold elsOf; rw [List.map_map]; rfl
    rw [this]; exact hn
  have r := MR.lays hD hl hnd fun e he k hk' => by
    unfold elsOf at he
    obtain ⟨⟨n, a, c⟩, hp, rfl⟩ := List.mem_map.mp he
    obtain ⟨nd, h1, rfl, rfl⟩ := (hm n c).mp ⟨a, hp⟩
    exact hd nd h1 k hk'
  have e1 : elP (elsOf st.nl) = ndP vn nds := by
    funext n c
    apply propext
    constructor
    · rintro ⟨e, he, rfl, rfl⟩
      unfold elsOf at he
      obtain ⟨⟨n, a, cf⟩, hp, rfl⟩ := List.mem_map.mp he
      obtain ⟨nd, h1, rfl, rfl⟩ := (hm n cf).mp ⟨a, hp⟩
      exact ⟨nd, h1, rfl, rfl⟩
    · rintro ⟨nd, h1, rfl, rfl⟩
      obtain ⟨a, hp⟩ := (hm nd.name (confOf vn nd.name nd.nc)).mpr ⟨nd, h1, rfl, rfl⟩
      exact ⟨⟨nd.name, a, _, _⟩, List.mem_map.mpr ⟨_, hp, rfl⟩, rfl, rfl⟩
  refine ⟨ok, e1 ▸ r, fun n => ?_⟩
  rw [hk]
  constructor
  · intro q
    obtain ⟨nd, h1, rfl⟩ := List.mem_map.mp q
    exact ⟨_, nd, h1, rfl, rfl⟩
  · rintro ⟨c, nd, h1, rfl, _⟩
    exact List.mem_map_of_mem h1
/- places -/
theorem sorted_eq : ∀ {xs ys : List Int}, xs.Perm ys → xs.Pairwise (· ≤ ·) → ys.Pairwise (· ≤ ·) → xs = ys
  | [], ys, h, _, _ => (List.nil_perm.mp h).symm
  | x :: xs, [], h, _, _ => absurd h.length_eq (by simp)
  | x :: xs, y :: ys, h, h1, h2 => by
    rw [List.pairwise_cons] at h1 h2
    have e : x = y := by
      have m1 : x ∈ y :: ys := h.mem_iff.mp (.head _)
      have m2 : y ∈ x :: xs := h.mem_iff.mpr (.head _)
      rcases List.mem_cons.mp m1 with q | q
      · exact q
      rcases List.mem_cons.mp m2 with r | r
      · exact r.symm
      exact Int.le_antisymm (h1.1 _ r) (h2.1 _ q)
    subst e
    rw [sorted_eq (List.Perm.cons_inv h) h1.2 h2.2]

end Mc

namespace Mc
noncomputable def lets : List Str := ["a", "b", "c", "d", "e", "f"]
noncomputable def DD (n : Str) (k : Nat) : Prop := n ∈ lets ∧ k < 9
theorem keyN_cps : ∀ i, i < 6 → ∀ k, k < 9 → (keyN (lets.getD i "") k).cps.toList = [97 + i, 45, 48 + k] := by decide +kernel
theorem inv101 : ∀ F, F < 101 → 1 ≤ F → ∃ G, G < 101 ∧ F * G % 101 = 1 := by decide +kernel
theorem mul_inj101 {F a b : Int} (h1 : 1 ≤ F) (h2 : F ≤ 100) (ha : 0 ≤ a ∧ a < 101) (hb : 0 ≤ b ∧ b < 101) (h : a * F % 101 = b * F % 101) : a = b := by
  obtain ⟨G, hG, hq⟩ := inv101 F.toNat (by omega) (by omega)
  have hF : ((F.toNat : Nat) : Int) = F := Int.toNat_of_nonneg (by omega)
  have hFG : F * (G : Int) % 101 = 1 := by rw [← hF]; exact_mod_cast hq
  have key : ∀ x : Int, x * F * (G : Int) % 101 = x % 101 := fun x => by
    rw [Int.mul_assoc, Int.mul_emod, hFG, Int.mul_one, Int.emod_emod_of_dvd _ (Int.dvd_refl _)]
  have e : a * F * (G : Int) % 101 = b * F * (G : Int) % 101 := by rw [Int.mul_emod, h, ← Int.mul_emod]
  rw [key, key, Int.emod_eq_of_lt ha.1 ha.2, Int.emod_eq_of_lt hb.1 hb.2] at e
  exact e
theorem lets_at {n : Str} (h : n ∈ lets) : ∃ i, i < 6 ∧ n = lets.getD i "" := by
  obtain ⟨i, hi, e⟩ := List.mem_iff_getElem.mp h
  refine ⟨i, hi, ?_⟩
  rw [List.getD_eq_getElem?_getD, List.getElem?_eq_getElem hi, ← e]; rfl
theorem choH_at {F : Int} {i k : Nat} (hi : i < 6) (hk : k < 9) : choH F (keyN (lets.getD i "") k) = 2 * (((9 * i + k + 1 : Nat) : Int) * F % 101) := by
  have e := keyN_cps i hi k hk
  unfold choH chp
  generalize keyN (lets.getD i "") k = key at e
  obtain ⟨⟨l⟩⟩ := key
  have e : l = [97 + i, 45, 48 + k] := e
  subst e
  have e1 : ((((97 + i : Nat) : Int) - 97) * 9 + ((48 + k : Nat) : Int) - 47) = ((9 * i + k + 1 : Nat) : Int) := by omega
  rw [← e1]
  rfl
theorem cho_apart {F : Int} (h1 : 1 ≤ F) (h2 : F ≤ 100) : Apart (choH F) DD := by
  rintro n k n' k' ⟨hn, hk⟩ ⟨hn', hk'⟩ e
  obtain ⟨i, hi, rfl⟩ := lets_at hn
  obtain ⟨j, hj, rfl⟩ := lets_at hn'
  rw [choH_at hi hk, choH_at hj hk'] at e
  have := mul_inj101 h1 h2 (a := ((9 * i + k + 1 : Nat) : Int)) (b := ((9 * j + k' + 1 : Nat) : Int)) (by omega) (by omega) (by omega)
  have hij : i = j ∧ k = k' := by omega
  obtain ⟨rfl, rfl⟩ := hij
  exact ⟨rfl, rfl⟩
theorem cho_dom {n : Str} {k : Nat} (h : DD n k) : choDom (keyN n k) := by
  obtain ⟨i, hi, rfl⟩ := lets_at h.1
  exact ⟨_, _, _, [], keyN_cps i hi k h.2, by omega, by have := h.2; omega⟩
end Mc

namespace Mc
noncomputable abbrev frW (script box names points number many one size turn around once : Option Value) : List (Str × Option Value) :=
  [("script", script), ("box", box), ("names", names), ("points", points), ("number", number), ("many", many), ("one", one), ("size", size), ("turn", turn), ("around", around), ("once", once)]
noncomputable abbrev clW (L : Addr) (chosen conf name ring key factor : Option Value) : List Item := [(L + 6, CellI factor), (L + 5, CellI key), (L + 4, CellI ring), (L + 3, CellI name), (L + 2, CellI conf), (L + 1, CellI chosen)]
/-- the law's call -/
noncomputable abbrev lenv (fa L : Addr) (nm : Str) (ps : Arguments) (body : List Stmt) (sc : Scope) (doc pm cd : Value) : Env := PySem.callEnvC { docDef nm ps body sc pm cd doc with defaults := .none, kwdefaults := .none } L fa
noncomputable def fdOf : Stmt → Value → Value → Value → FuncData
  | .FunctionDef nm ps body _ _ _ sc _ _ _, doc, pm, cd => { docDef nm ps body sc pm cd doc with defaults := .none, kwdefaults := .none }
  | _, _, _, _ => default
noncomputable def fnB : Stmt → List Stmt
  | .FunctionDef _ _ b _ _ _ _ _ _ _ => b
  | _ => []
noncomputable abbrev lawB : List Stmt := fnB (f1 11)
noncomputable abbrev lnv (fa L : Addr) (doc pm cd : Value) : Env := PySem.callEnvC (fdOf (f1 11) doc pm cd) L fa
theorem fmod_nn {a b : Int} (hb : 0 < b) : a.fmod b = a % b := Int.fmod_eq_emod_of_nonneg _ (Int.le_of_lt hb)
theorem take' {w : World} {C : Cx} (hB : Bs PP w (hK w.params) gl C) {box : Addr} {xs : List Int} {A : Around} {its its' : List Item} {s : Shared} {Q E : Value → Shared → Prop} (hA : Rm A 3 20) (H : S C its s) (hU : Up box (ListI (xs.map vi)) (ListI (xs.tail.map vi)) its its') (hz : xs.length ≤ 1000)
   (hQ : ∀ t' s', S C its' s' → Q (.int (xs.headD 0) t') s') : wpAny (model PP w) A (call (.ref 403) [.ref box]) Q E s := take_law w C hB box xs hz A its its' s Q E hA H hU hQ
noncomputable def forBody (l : List Stmt) : List Stmt := match l with | .For _ _ b _ _ :: _ => b | _ => []
noncomputable def ifB (l : List Stmt) : List Stmt := match l with | .If _ b _ _ :: _ => b | _ => []

end Mc

namespace Mc

/-- box, factor, chosen, names, conf, points -/
theorem segA (w : World) (C : Cx) (hB : Bs PP w (hK w.params) gl C) {p : Program} {loose : List Str} {mean : ExcName → Option Value} {mg mb : Str → Option Value} (T : Top p loose mean mg mb C.B) (hC : CodeHd C.B 407 405) (hbm : ∀ a ∈ C.tb, ∃ ps', C.B.get? a = some (tabObj ps')) (htb : C.tb = [89, 405])
   (fa L sl : Addr) (vals : List Value) (ns : List Int) (hsl : C.B.IsList sl vals.toArray) (hin : IntsAre vals ns) (hz : ns.length ≤ 63)
   (doc pm : Value)
   (A : Around) (s : Shared) (Q : Flow → Shared → Prop) (E : Value → Shared → Prop) (hA : Rm A 60 200)
   (H : S C ((L, NsI (frW (some (.ref sl)) none none none none none none none none none none)) :: (clW L none none none none none none ++ [(89, TabI #[]), (405, TabI #[])])) s)
   (hQ : ∀ (F : Int) (m : Nat) (xs : List Int) (bx ha c' nmA cfA ptA : Addr) (fd : FuncData) (tab : Array Value) s', 1 ≤ F → F ≤ 100 → 1 ≤ m → m ≤ 5 → xs.length ≤ 63 → (∀ G, HKey w (C.wg G) ha (choIts ha (L + 6) c' F fd) (fun k => 2 * k + 1)) → (∀ G, HOk w (C.wg G) ha (choIts ha (L + 6) c' F fd) (choH F) choDom) →
     S C ((L, NsI (frW (some (.ref sl)) (some (.ref bx)) (some (.ref nmA)) (some (.ref ptA)) none none none none none none none)) :: (clW L (some (.ref ha)) (some (.ref cfA)) none none none (some (vi F)) ++ ((cfA, DictI (sk PP w) [] none) :: (ptA, ListI []) :: (bx, ListI (xs.map vi)) :: (nmA, ListI ((lets.take m).map vs)) :: (ha, FnI fd) :: (c', CodeI fd.qualname) :: [(89, TabI #[]), (405, TabI tab)]))) s' →
     wpAny (model PP w) A (execs (lawB.drop 6) (lnv fa L doc pm (.ref 407))) Q E s') :
   wpAny (model PP w) A (execs lawB (lnv fa L doc pm (.ref 407))) Q E s := by
  have hA1 := hA
  refine (show (let env : Env := lenv fa L _ _ _ _ doc pm (.ref 407); wpAny (model PP w) A (execs _ env) Q E s) from ?_)
  intro env
  simp only [List.cons_append, List.nil_append] at H
  iterate 13 walk1
  have hnsl : sl ∉ C.tb := fun hm => by
    obtain ⟨ps', e⟩ := hbm _ hm
    obtain ⟨o, ho, hc, _⟩ := hsl
    rw [e] at ho; cases ho; cases hc
  refine r_slice_given (b := 20) H.tk hsl hin hnsl (by omega) (by with_unfolding_all rfl) (by intro _; with_unfolding_all rfl) fun D1 s H => ?_
  have hl24 : (ns.take 20).length ≤ 20 := by rw [List.length_take]; omega
  generalize ns.take 20 = xs0 at *
  have H : S C _ s := H
  iterate 17 walk1
  have hl1 : xs0.tail.length ≤ 20 := by rw [List.length_tail]; omega
  generalize xs0.headD 0 = r0 at *
  generalize xs0.tail = xs1 at *
  iterate 4 walk1
  rw [fmod_nn (by decide)] at H
  walk1
  refine nestDef_K rfl rfl rfl ?_
  obtain ⟨bx, H⟩ : ∃ bx, S C ((405, TabI #[]) :: ([(bx, ListI (List.map vi xs1)), (L, NsI (frW (some (.ref sl)) (some (.ref bx)) none none none none none none none none none))] ++ (clW L none none none none none (some (vi (1 + r0 % 100))) ++ [(89, TabI #[])]))) s := ⟨_, S.pick (ps := [(405, _), (_, ListI (List.map vi xs1)), (L, _), (L + 6, _), (L + 5, _), (L + 4, _), (L + 3, _), (L + 2, _), (L + 1, _), (89, _)]) H (by walk_at "pick") (by walk_at "sub")⟩
  refine r_nest H hB T hC (by rw [htb]; decide) hbm rfl rfl ?_ rfl (clos := [("factor", L + 6)]) rfl (by rw [htb]; simp) fun ha c' ctv doc' pm' s H => ?_
  · trivial
  have hk := fun G => cho_key w (C.wg G) (hB.wg G) ha (L + 6) c' (1 + r0 % 100) _ (qualnameIn env "chosen" "chosen") _ _ _ _ _ _ _ _ _ doc' pm' ctv rfl
  have hs := fun G => cho_str w (C.wg G) (hB.wg G) ha (L + 6) c' (1 + r0 % 100) _ (qualnameIn env "chosen" "chosen") _ _ _ _ _ _ _ _ _ doc' pm' ctv (by omega) (by omega) rfl
  generalize hfd : fnX _ _ _ _ _ _ _ _ _ _ _ _ _ = fd at hk hs H
  have hq : qualnameIn env "chosen" "chosen" = fd.qualname := by rw [← hfd]
  rw [hq] at H
  clear hfd hq
  simp only [List.cons_append, List.nil_append] at H
  iterate 32 walk1
  have hl2 : xs1.tail.length ≤ 20 := by rw [List.length_tail]; omega
  generalize xs1.headD 0 = r1 at *
  generalize xs1.tail = xs2 at *
  iterate 3 walk1
  obtain ⟨m, hm⟩ : ∃ m : Nat, 1 + r1.fmod 5 = (m : Int) := ⟨(1 + r1.fmod 5).toNat, by rw [fmod_nn (by decide)]; omega⟩
  have hm2 : 1 ≤ m ∧ m ≤ 5 := by rw [fmod_nn (by decide)] at hm; omega
  rw [hm]
  iterate 3 walk1
  have e : List.take m [Value.str "a" 0, Value.str "b" 0, Value.str "c" 0, Value.str "d" 0, Value.str "e" 0] = (lets.take m).map vs := by
    have : lets.take m = ((["a", "b", "c", "d", "e"] : List Str)).take m := by
      obtain ⟨_, hm5⟩ := hm2
      have : m = 1 ∨ m = 2 ∨ m = 3 ∨ m = 4 ∨ m = 5 := by omega
      rcases this with rfl | rfl | rfl | rfl | rfl <;> rfl
    rw [this, List.map_take]; rfl
  rw [e] at H
  iterate 10 walk1
  obtain ⟨nmA, cfA, ptA, H⟩ : ∃ nmA cfA ptA, S C ([(L, NsI (frW (some (.ref sl)) (some (.ref bx)) (some (.ref nmA)) (some (.ref ptA)) none none none none none none none)), (L + 6, CellI (some (vi (1 + r0 % 100)))), (L + 5, CellI none), (L + 4, CellI none), (L + 3, CellI none), (L + 2, CellI (some (.ref cfA))), (L + 1, CellI (some (.ref ha))), (cfA, DictI (sk PP w) [] none), (ptA, ListI []), (bx, ListI (xs2.map vi)), (nmA, ListI ((lets.take m).map vs)), (ha, FnI fd), (c', CodeI fd.qualname), (89, TabI #[]), (405, TabI _)] ++ []) s :=
    ⟨_, _, _, S.pick H (by walk_at "pick") (by walk_at "sub")⟩
  exact hQ (1 + r0 % 100) m xs2 bx ha c' nmA cfA ptA fd _ s (by omega) (by omega) hm2.1 hm2.2 (by omega) hk hs H

end Mc

namespace Mc
/-- a row of the law -/
structure Rq where
  ad : Addr
  name : Str
  v : Int
  wt : Int
  host : Str
  port : Int
noncomputable abbrev Rq.kvs (r : Rq) : List (Str × Value) := [("vnodes", vi r.v), ("weight", vi r.wt), ("hostname", vs r.host), ("port", vi r.port)]
noncomputable abbrev Rq.cf (r : Rq) : Cf := ⟨vs r.host, .none, r.name, vi r.port, r.v, r.wt⟩
noncomputable def Rq.cnt (r : Rq) : Nat := (r.v * r.wt).toNat
noncomputable def rqK (rs : List Rq) : List (Str × Value) := rs.map fun r => (r.name, .ref r.ad)
noncomputable def rqIts (w : World) (rs : List Rq) : List Item := rs.map fun r => (r.ad, DictI (sk PP w) r.kvs none)
noncomputable def rqNds (rs : List Rq) : List Nd := rs.map fun r => ⟨r.name, .row r.ad r.kvs⟩
theorem rqK_nds (rs : List Rq) : ndK (rqNds rs) = rqK rs := by unfold ndK rqNds rqK; rw [List.map_map]; rfl
theorem conf_rq (vn : Int) (r : Rq) : confOf vn r.name (.row r.ad r.kvs) = r.cf := by kernel_rfl
structure RqOk (r : Rq) : Prop where
  nm : r.name ∈ lets
  b : 1 ≤ r.v ∧ r.v ≤ 3 ∧ 1 ≤ r.wt ∧ r.wt ≤ 2
theorem RqOk.cnt {r : Rq} (h : RqOk r) : 1 ≤ r.cnt ∧ r.cnt ≤ 6 := by
  obtain ⟨_, h1, h2, h3, h4⟩ := h
  have b1 : 1 * 1 ≤ r.v * r.wt := Int.mul_le_mul h1 h3 (by decide) (by omega)
  have b2 : r.v * r.wt ≤ 3 * 2 := Int.mul_le_mul h2 h4 (by omega) (by decide)
  unfold Rq.cnt
  omega
theorem rowOk_rq (r : Rq) : RowOk r.kvs := by
  intro p hp
  rcases List.mem_cons.mp hp with rfl | hp
  · exact ⟨fun h => absurd h (by decide +kernel : ¬ ("vnodes" : Str) = "nodename"), fun _ => ⟨_, rfl⟩, fun h => absurd h (by decide +kernel : ¬ ("vnodes" : Str) = "weight")⟩
  rcases List.mem_cons.mp hp with rfl | hp
  · exact ⟨fun h => absurd h (by decide +kernel : ¬ ("weight" : Str) = "nodename"), fun h => absurd h (by decide +kernel : ¬ ("weight" : Str) = "vnodes"), fun _ => ⟨_, rfl⟩⟩
  rcases List.mem_cons.mp hp with rfl | hp
  · exact ⟨fun h => absurd h (by decide +kernel : ¬ ("hostname" : Str) = "nodename"), fun h => absurd h (by decide +kernel : ¬ ("hostname" : Str) = "vnodes"), fun h => absurd h (by decide +kernel : ¬ ("hostname" : Str) = "weight")⟩
  rcases List.mem_cons.mp hp with rfl | hp
  · exact ⟨fun h => absurd h (by decide +kernel : ¬ ("port" : Str) = "nodename"), fun h => absurd h (by decide +kernel : ¬ ("port" : Str) = "vnodes"), fun h => absurd h (by decide +kernel : ¬ ("port" : Str) = "weight")⟩
  cases hp
theorem nd_len {α : Type} [DecidableEq α] {l m : List α} (nd : l.Nodup) (h : ∀ a ∈ l, a ∈ m) : l.length ≤ m.length := by
  induction l generalizing m with
  | nil => exact Nat.zero_le _
  | cons a l ih =>
    rw [List.nodup_cons] at nd
    have hm := h a (.head _)
    have h2 : ∀ b ∈ l, b ∈ m.erase a := fun b hb => (List.mem_erase_of_ne fun (e : b = a) => nd.1 (by rw [← e]; exact hb)).mpr (h b (.tail _ hb))
    have := ih nd.2 h2
    rw [List.length_erase_of_mem hm] at this
    rw [List.length_cons]
    exact Nat.le_trans (Nat.succ_le_succ this) (Nat.le_of_eq (Nat.succ_pred_eq_of_pos (List.length_pos_of_mem hm)))
/-- a ring of the law -/
structure LR (F : Int) (st : RS) (P : Str → Nat → Prop) : Prop where
  ring : Ring (choH F) st P
  pd : ∀ n c, P n c → n ∈ lets ∧ 1 ≤ c ∧ c ≤ 9
theorem LR.dd {F : Int} {st : RS} {P : Str → Nat → Prop} (l : LR F st P) : ∀ n c k, P n c → k < c → DD n k := fun n c k h hk => ⟨(l.pd n c h).1, by have := (l.pd n c h).2.2; omega⟩
noncomputable def allPts (F : Int) : List Int := lets.flatMap fun n => (List.range 9).map fun k => choH F (keyN n k)
theorem allPts_len (F : Int) : (allPts F).length = 54 := rfl
theorem LR.rl_len {F : Int} {st : RS} {P : Str → Nat → Prop} (l : LR F st P) (nd : (st.m.rl.map (·.1)).Nodup) : st.m.rl.length ≤ 54 := by
  have := nd_len (m := allPts F) nd fun p hp => by
    obtain ⟨X, hX⟩ := Option.isSome_iff_exists.mp (valueAt_isSome.mpr hp)
    obtain ⟨n, c, k, h1, h2, rfl, _⟩ := (l.ring.mr.pt p X).mp hX
    have d := l.dd n c k h1 h2
    exact List.mem_flatMap.mpr ⟨n, d.1, List.mem_map.mpr ⟨k, List.mem_range.mpr d.2, rfl⟩⟩
  rw [List.length_map, allPts_len] at this
  exact this
theorem LR.nl_len {F : Int} {st : RS} {P : Str → Nat → Prop} (l : LR F st P) : st.nl.length ≤ 6 := by
  have := nd_len (m := lets) l.ring.ok.nd fun n hn => by obtain ⟨c, hc⟩ := (l.ring.nls n).mp hn; exact (l.pd n c hc).1
  rw [List.length_map] at this
  exact this
theorem LR.pl_len {F : Int} {st : RS} {P : Str → Nat → Prop} (l : LR F st P) : st.m.pl.length ≤ 6 := by
  have := nd_len (m := lets) l.ring.ok.g.nd fun n hn => by obtain ⟨c, hc⟩ := (l.ring.mr.pls n).mp hn; exact (l.pd n c hc).1
  rw [List.length_map] at this
  exact this
theorem LR.dl_len {F : Int} {st : RS} {P : Str → Nat → Prop} (l : LR F st P) (nd : (st.m.dl.map (·.1)).Nodup) : st.m.dl.length ≤ 6 := by
  have := nd_len (m := lets) nd fun n hn => by obtain ⟨c, hc⟩ := (l.ring.mr.pls n).mp (l.ring.ok.g.sub n hn); exact (l.pd n c hc).1
  rw [List.length_map] at this
  exact this
theorem rg_nd {w : World} {C : Cx} {ha : Addr} {r : Rg} {st : RS} {its : List Item} {s : Shared} (H : S C its s) (hr : ∀ p ∈ rgIts w ha r st, p ∈ its) : (st.m.rl.map (·.1)).Nodup ∧ (st.m.dl.map (·.1)).Nodup := by
  obtain ⟨o, _, h1⟩ := H.get (hr (r.rg, DictI (ik PP w) st.m.rl none) (by first | exact List.mem_of_getElem? (i := 0) rfl | exact List.mem_of_getElem? (i := 1) rfl | exact List.mem_of_getElem? (i := 2) rfl | exact List.mem_of_getElem? (i := 3) rfl | exact List.mem_of_getElem? (i := 4) rfl | exact List.mem_of_getElem? (i := 5) rfl | exact List.mem_of_getElem? (i := 6) rfl | exact List.mem_of_getElem? (i := 7) rfl | exact List.mem_of_getElem? (i := 8) rfl))
  obtain ⟨o2, _, h2⟩ := H.get (hr (r.dist, DictI (sk PP w) st.m.dl none) (by first | exact List.mem_of_getElem? (i := 0) rfl | exact List.mem_of_getElem? (i := 1) rfl | exact List.mem_of_getElem? (i := 2) rfl | exact List.mem_of_getElem? (i := 3) rfl | exact List.mem_of_getElem? (i := 4) rfl | exact List.mem_of_getElem? (i := 5) rfl | exact List.mem_of_getElem? (i := 6) rfl | exact List.mem_of_getElem? (i := 7) rfl | exact List.mem_of_getElem? (i := 8) rfl))
  exact ⟨h1.nodup, h2.nodup⟩
/-- what the rows of the ring's nodes are -/
structure LQ (F : Int) (st : RS) (P : Str → Nat → Prop) (rows : List Rq) : Prop where
  lr : LR F st P
  cf : ∀ q ∈ st.nl, ∃ r ∈ rows, r.name = q.1 ∧ q.2.2 = r.cf
section
variable {w : World} {C : Cx} {ha : Addr} {hIts : List Item} {F : Int} {rows : List Rq}
/-- ring.get_node(key) -/
theorem law_get (hB : Bs PP w (hK w.params) gl C) {st : RS} {P : Str → Nat → Prop} (l : LR F st P) (hk : HKey w C ha hIts (fun k => 2 * k + 1)) (hh : HOk w C ha hIts (choH F) choDom) {A : Around} {its : List Item} {s : Shared} {Q E : Value → Shared → Prop} {r : Rg} {key : Int} {t : Tok}
    (hA : Rm A 8 80) (H : S C its s) (hr : ∀ p ∈ rgIts w ha r st, p ∈ its) (hi : ∀ p ∈ hIts, p ∈ its) (hQ : ∀ v s', er v = own st.ns st.m.rl (2 * key + 1) → S C its s' → Q v s') : wpAny (model PP w) A (call (.ref 245) [.ref r.hr, .int key t]) Q E s := by
  have hz := l.rl_len (rg_nd H hr).1
  have ok := l.ring.ok
  exact get_nn w C hB r.hr r.hrd r.rt r.rtd r.dist st.ka r.npts r.nodes r.rg ha r.vn .none hIts (choH F) choDom hh _ hk st.ns ok.so st.m.rl (by omega) ok.pm ok.g.st (H.sysm (hr (r.rg, DictI (ik PP w) st.m.rl none) (by first | exact List.mem_of_getElem? (i := 0) rfl | exact List.mem_of_getElem? (i := 1) rfl | exact List.mem_of_getElem? (i := 2) rfl | exact List.mem_of_getElem? (i := 3) rfl | exact List.mem_of_getElem? (i := 4) rfl | exact List.mem_of_getElem? (i := 5) rfl | exact List.mem_of_getElem? (i := 6) rfl | exact List.mem_of_getElem? (i := 7) rfl | exact List.mem_of_getElem? (i := 8) rfl))) A its s Q E key t hA H hi
    (hr _ (by first | exact List.mem_of_getElem? (i := 0) rfl | exact List.mem_of_getElem? (i := 1) rfl | exact List.mem_of_getElem? (i := 2) rfl | exact List.mem_of_getElem? (i := 3) rfl | exact List.mem_of_getElem? (i := 4) rfl | exact List.mem_of_getElem? (i := 5) rfl | exact List.mem_of_getElem? (i := 6) rfl | exact List.mem_of_getElem? (i := 7) rfl | exact List.mem_of_getElem? (i := 8) rfl)) (hr _ (by first | exact List.mem_of_getElem? (i := 0) rfl | exact List.mem_of_getElem? (i := 1) rfl | exact List.mem_of_getElem? (i := 2) rfl | exact List.mem_of_getElem? (i := 3) rfl | exact List.mem_of_getElem? (i := 4) rfl | exact List.mem_of_getElem? (i := 5) rfl | exact List.mem_of_getElem? (i := 6) rfl | exact List.mem_of_getElem? (i := 7) rfl | exact List.mem_of_getElem? (i := 8) rfl)) (hr _ (by first | exact List.mem_of_getElem? (i := 0) rfl | exact List.mem_of_getElem? (i := 1) rfl | exact List.mem_of_getElem? (i := 2) rfl | exact List.mem_of_getElem? (i := 3) rfl | exact List.mem_of_getElem? (i := 4) rfl | exact List.mem_of_getElem? (i := 5) rfl | exact List.mem_of_getElem? (i := 6) rfl | exact List.mem_of_getElem? (i := 7) rfl | exact List.mem_of_getElem? (i := 8) rfl)) (hr _ (by first | exact List.mem_of_getElem? (i := 0) rfl | exact List.mem_of_getElem? (i := 1) rfl | exact List.mem_of_getElem? (i := 2) rfl | exact List.mem_of_getElem? (i := 3) rfl | exact List.mem_of_getElem? (i := 4) rfl | exact List.mem_of_getElem? (i := 5) rfl | exact List.mem_of_getElem? (i := 6) rfl | exact List.mem_of_getElem? (i := 7) rfl | exact List.mem_of_getElem? (i := 8) rfl)) (hr _ (by first | exact List.mem_of_getElem? (i := 0) rfl | exact List.mem_of_getElem? (i := 1) rfl | exact List.mem_of_getElem? (i := 2) rfl | exact List.mem_of_getElem? (i := 3) rfl | exact List.mem_of_getElem? (i := 4) rfl | exact List.mem_of_getElem? (i := 5) rfl | exact List.mem_of_getElem? (i := 6) rfl | exact List.mem_of_getElem? (i := 7) rfl | exact List.mem_of_getElem? (i := 8) rfl)) (hr _ (by first | exact List.mem_of_getElem? (i := 0) rfl | exact List.mem_of_getElem? (i := 1) rfl | exact List.mem_of_getElem? (i := 2) rfl | exact List.mem_of_getElem? (i := 3) rfl | exact List.mem_of_getElem? (i := 4) rfl | exact List.mem_of_getElem? (i := 5) rfl | exact List.mem_of_getElem? (i := 6) rfl | exact List.mem_of_getElem? (i := 7) rfl | exact List.mem_of_getElem? (i := 8) rfl)) hQ
/-- ring.remove_node(name) -/
theorem law_rm (hB : Bs PP w (hK w.params) gl C) (hF : 1 ≤ F ∧ F ≤ 100) {st : RS} {P : Str → Nat → Prop} (l0 : LQ F st P rows) {A : Around} {rest : List Item} {s : Shared} {Q E : Value → Shared → Prop} {r : Rg} {name : Str} {t : Tok}
    (hA : Rm A 3 30) (hn : ∃ c, P name c) (H : S C (rgIts w ha r st ++ rest) s) (hQ : ∀ st' s', LQ F st' (rmP P name) rows → S C (rgIts w ha r st' ++ rest) s' → Q .none s') : wpAny (model PP w) A (call (.ref 171) [.ref r.hr, .str name t]) Q E s := by
  have l := l0.lr
  have nd := rg_nd H (r := r) (st := st) (ha := ha) fun p hp => List.mem_append_left _ hp
  have z1 := l.rl_len nd.1
  have z2 := l.dl_len nd.2
  have z3 := l.pl_len
  have z4 := l.nl_len
  refine ring_rm w C hB ha r st l.ring.ok A rest s Q E name t hA ((l.ring.nls name).mpr hn) ((l.ring.mr.pls name).mpr hn) (by omega) (by omega) (by omega) (by omega) H fun ka ns s' ok H' => ?_
  exact hQ _ s' ⟨⟨l.ring.rm (cho_apart hF.1 hF.2) l.dd ok, fun n c h => l.pd n c h.2⟩, fun q hq => l0.cf q (List.mem_filter.mp hq).1⟩ H'
end
theorem sum_le9 (l : List Nat) (h : ∀ x ∈ l, x ≤ 9) : l.sum ≤ 9 * l.length := by
  induction l with
  | nil => exact Nat.zero_le _
  | cons x l ih =>
    have h1 := h x (.head _)
    have h2 := ih fun y hy => h y (.tail _ hy)
    rw [List.sum_cons, List.length_cons, Nat.mul_succ, Nat.add_comm]
    exact Nat.add_le_add h2 h1
/-- HashRing(nodes, hash_fn=chosen, ..) -/
theorem law_new {w : World} {C : Cx} {ha : Addr} {hIts : List Item} {F : Int} (hB : Bs PP w (hK w.params) gl C) (hF : 1 ≤ F ∧ F ≤ 100) (hh : HOk w C ha hIts (choH F) choDom) {A : Around} {rest : List Item} {s : Shared} {Q E : Value → Shared → Prop} {kw : List (Str × Value)} {vn : Int} (hkw : KwOk kw ha vn) {fdH : FuncData} {nd : Addr}
    {nItem : Item} {nds : List Nd} {okR : List Item → Prop} (hcf : ConfC w C nItem nds nd okR) (hok : ∀ its, rest.Sublist its → okR its) (hnd : (nds.map (·.name)).Nodup)
    (hpd : ∀ e ∈ nds, e.name ∈ lets ∧ 1 ≤ (confOf vn e.name e.nc).v ∧ (confOf vn e.name e.nc).v ≤ 9 ∧ 1 ≤ (confOf vn e.name e.nc).wt ∧ (confOf vn e.name e.nc).wt ≤ 9 ∧ (confOf vn e.name e.nc).v * (confOf vn e.name e.nc).wt ≤ 9)
    (hA : Rm A 9 90) (hi : (ha, FnI fdH) ∈ rest) (hr0 : ∀ p ∈ hIts, p ∈ rest) (H : S C (nItem :: rest) s)
    (hQ : ∀ r st s', LR F st (ndP vn nds) → (∀ q ∈ st.nl, ∃ e ∈ nds, e.name = q.1 ∧ confOf vn e.name e.nc = q.2.2) → S C (rgIts w ha r st ++ (nItem :: rest)) s' → Q (.ref r.hr) s') : wpAny (model PP w) A (call (.ref 392) [.ref nd] kw) Q E s := by
  have hl6 : nds.length ≤ 6 := by
    have := nd_len (m := lets) hnd fun n hn => by obtain ⟨e, he, rfl⟩ := List.mem_map.mp hn; exact (hpd e he).1
    rw [List.length_map] at this; exact this
  have hcnt : ∀ e ∈ nds, ((confOf vn e.name e.nc).v * (confOf vn e.name e.nc).wt - 0).toNat ≤ 9 ∧ 1 ≤ ((confOf vn e.name e.nc).v * (confOf vn e.name e.nc).wt - 0).toNat := fun e he => by
    obtain ⟨_, p1, p2, p3, p4, p5⟩ := hpd e he
    have b1 : 1 * 1 ≤ (confOf vn e.name e.nc).v * (confOf vn e.name e.nc).wt := Int.mul_le_mul p1 p3 (by decide) (by omega)
    omega
  have hdd : ∀ e ∈ nds, ∀ k, k < ((confOf vn e.name e.nc).v * (confOf vn e.name e.nc).wt - 0).toNat → DD e.name k := fun e he k hk => ⟨(hpd e he).1, by have := (hcnt e he).1; omega⟩
  refine hr_init w C hB A rest s Q E ha fdH nd hA hi kw vn hkw nItem nds okR hcf hok (by omega) hnd hIts (choH F) choDom hh hr0 ?_ H fun r st s' _ hc hl ok H' => ?_
  · intro nl b hc
    have hm := hc.mem hnd
    have hlen : nl.length = nds.length := by
      have := congrArg List.length (hc.keys hnd)
      rw [List.length_map, List.length_map] at this; exact this
    have hof : ∀ p ∈ nl, ∃ e ∈ nds, e.name = p.1 ∧ confOf vn e.name e.nc = p.2.2 := fun p hp => (hm p.1 p.2.2).mp ⟨p.2.1, hp⟩
    refine ⟨fun p hp => ?_, ?_, by omega⟩
    · obtain ⟨e, he, e1, e2⟩ := hof p hp
      obtain ⟨p0, p1, p2, p3, p4, p5⟩ := hpd e he
      rw [← e1, ← e2]
      have hnl : e.name.length ≤ 100 := by
        obtain ⟨i, hi, q⟩ := lets_at p0
        have : ∀ i, i < 6 → (lets.getD i "").length ≤ 100 := by decide +kernel
        rw [q]; exact this i hi
      exact ⟨p1, by omega, p3, by omega, hnl, fun k hk => cho_dom (hdd e he k hk)⟩
    · have := sum_le9 ((elsOf nl).map El.cnt) fun x hx => by
        obtain ⟨el, hel, rfl⟩ := List.mem_map.mp hx
        unfold elsOf at hel
        obtain ⟨p, hp, rfl⟩ := List.mem_map.mp hel
        obtain ⟨e, he, e1, e2⟩ := hof p hp
        have := (hcnt e he).1
        rw [e2] at this
        exact this
      rw [List.length_map] at this
      have h2 : (elsOf nl).length = nl.length := List.length_map _
      omega
  · refine hQ r st s' ⟨Ring.init (cho_apart hF.1 hF.2) hc hl ok hnd hdd, fun n c h => ?_⟩ (fun q hq => by obtain ⟨b, hc⟩ := hc; exact (hc.mem hnd q.1 q.2.2).mp ⟨q.2.1, hq⟩) H'
    obtain ⟨e, he, rfl, rfl⟩ := h
    exact ⟨(hpd e he).1, (hcnt e he).2, (hcnt e he).1⟩
theorem S.pickR {C : Cx} {pre its ps l rest : List Item} {s : Shared} (H : S C (pre ++ its) s) (h : Pks ps its l) (hr : rest.Sublist l) : S C (pre ++ (ps ++ rest)) s :=
  (H.perm (List.Perm.append_left pre h.perm)).mono (List.Sublist.append_left (List.Sublist.append_left hr ps) pre)
theorem kwok1 (ha : Addr) : KwOk [("hash_fn", .ref ha)] ha 160 :=
  ⟨by kernel_rfl, .inl ⟨by kernel_rfl, rfl⟩, by kernel_rfl, by kernel_rfl, fun p hp => by rw [List.mem_singleton] at hp; subst hp; exact ⟨(by decide +kernel : ¬ (("hash_fn" : Str) = "self")), (by decide +kernel : ¬ (("hash_fn" : Str) = "nodes"))⟩, by simp⟩
/-- a method of a ring -/
theorem law_meth {w : World} {C : Cx} (hB : Bs PP w (hK w.params) gl C) {A : Around} {its : List Item} {s : Shared} {Q : Value × List Value → Shared → Prop} {E : Value → Shared → Prop} {pl : Sem Bool} {ha : Addr} {r : Rg} {st : RS} {name : Str} {f : Addr} (H : S C its s) (hr : ∀ p ∈ rgIts w ha r st, p ∈ its) (hp : (name, f) ∈ ms390)
    (h : Q (.ref f, [.ref r.hr]) s) : wpAny (model PP w) A (getMethod (.ref r.hr) name pl) Q E s :=
  rc_meth H hB (hr (r.hr, InstI 392 r.hrd) (by first | exact List.mem_of_getElem? (i := 0) rfl | exact List.mem_of_getElem? (i := 1) rfl | exact List.mem_of_getElem? (i := 2) rfl | exact List.mem_of_getElem? (i := 3) rfl | exact List.mem_of_getElem? (i := 4) rfl | exact List.mem_of_getElem? (i := 5) rfl | exact List.mem_of_getElem? (i := 6) rfl | exact List.mem_of_getElem? (i := 7) rfl | exact List.mem_of_getElem? (i := 8) rfl)) (c390 w) (hr (r.hrd, DictI (sk PP w) (hrA r.rt r.vn .none) none) (by first | exact List.mem_of_getElem? (i := 0) rfl | exact List.mem_of_getElem? (i := 1) rfl | exact List.mem_of_getElem? (i := 2) rfl | exact List.mem_of_getElem? (i := 3) rfl | exact List.mem_of_getElem? (i := 4) rfl | exact List.mem_of_getElem? (i := 5) rfl | exact List.mem_of_getElem? (i := 6) rfl | exact List.mem_of_getElem? (i := 7) rfl | exact List.mem_of_getElem? (i := 8) rfl)) hp (by
    have : ∀ p ∈ ms390, (["runtime", "_default_vnodes", "_weight_fn"] : List Str).contains p.1 = false := by decide +kernel
    exact this _ hp) h
/-- ring.add_node(name, row): a node that is not there -/
theorem law_add {w : World} {C : Cx} {ha : Addr} {hIts : List Item} {F : Int} {rows : List Rq} (hB : Bs PP w (hK w.params) gl C) (hF : 1 ≤ F ∧ F ≤ 100) {st : RS} {P : Str → Nat → Prop} (l0 : LQ F st P rows) (hh : HOk w C ha hIts (choH F) choDom) {A : Around} {rest : List Item} {s : Shared} {Q E : Value → Shared → Prop} {r : Rg} {t : Tok} (row : Rq) (hmem : row ∈ rows) (hok : RqOk row) (hnin : ∀ c, ¬ P row.name c)
    (hA : Rm A 8 80) (hr0 : ∀ p ∈ hIts, p ∈ rest) (hrow : (row.ad, DictI (sk PP w) row.kvs none) ∈ rest)
    (H : S C (rgIts w ha r st ++ rest) s)
    (hQ1 : ∀ st' s', LQ F st' (addP P row.name row.cnt) rows → S C (rgIts w ha r st' ++ rest) s' → Q .none s') : wpAny (model PP w) A (call (.ref 203) [.ref r.hr, .str row.name t, .ref row.ad]) Q E s := by
  have l := l0.lr
  have nd := rg_nd H (r := r) (st := st) (ha := ha) fun p hp => List.mem_append_left _ hp
  have z1 := l.rl_len nd.1
  have z2 := l.dl_len nd.2
  have z3 := l.pl_len
  have z4 := l.nl_len
  have hn := hok.nm
  have hv := hok.b
  have hcc := hok.cnt
  have hnl : row.name.length ≤ 100 := by
    obtain ⟨i, hi, e⟩ := lets_at hn
    have : ∀ i, i < 6 → (lets.getD i "").length ≤ 100 := by decide +kernel
    rw [e]; exact this i hi
  have hcnt : (row.v * row.wt - 0).toNat = row.cnt := by unfold Rq.cnt; rw [Int.sub_zero]
  have hD : ∀ k, k < row.cnt → DD row.name k := fun k hk => ⟨hn, by omega⟩
  refine ring_add w C hB 203 (.inl rfl) ha hIts (choH F) choDom hh r st l.ring.ok A rest s Q E row.name t row.ad row.kvs hA hr0 ⟨hrow, rowOk_rq _, by simp⟩ (by omega) (by omega) (by omega)
    row.cf (conf_rq _ row).symm ⟨hv.1, by show row.v ≤ 1000; omega, hv.2.2.1, by show row.wt ≤ 1000; omega⟩ hnl (fun k hk => cho_dom (hD k (by rw [hcnt] at hk; exact hk))) (by show st.m.rl.length + (row.v * row.wt - 0).toNat < 64; omega) H ?_ ?_
  · intro a pa ka ns s' _ ok H'
    have R := l.ring.add (cho_apart hF.1 hF.2) l.dd (name := row.name) (cnt := (row.v * row.wt - 0).toNat) (fun k hk => hD k (by rw [hcnt] at hk; exact hk)) ok
    refine hQ1 _ s' ⟨⟨by rw [hcnt] at R; exact R, fun n c h => ?_⟩, fun q hq => ?_⟩ (by rw [hcnt] at H'; exact H')
    · rcases h with ⟨rfl, rfl⟩ | ⟨_, h⟩
      · exact ⟨hn, by omega, by omega⟩
      · exact l.pd n c h
    · have hq : q ∈ nlSet st.nl row.name a row.cf := hq
      unfold nlSet at hq
      split at hq
      · obtain ⟨q0, h0, e⟩ := List.mem_map.mp hq
        by_cases z : q0.1 = row.name
        · rw [if_pos z] at e
          subst e
          exact ⟨row, hmem, z.symm, rfl⟩
        · rw [if_neg z] at e
          subst e
          exact l0.cf _ h0
      · rcases List.mem_append.mp hq with hq | hq
        · exact l0.cf _ hq
        · rw [List.mem_singleton] at hq
          subst hq
          exact ⟨row, hmem, rfl, rfl⟩
  · intro a s' hc ok H'
    have hin : ∃ c, P row.name c := by
      refine (l.ring.nls row.name).mp ?_
      apply Classical.byContradiction
      intro q
      rw [nlAt_none q] at hc
      simp [chgOf] at hc
    obtain ⟨c, hc⟩ := hin
    exact absurd hc (hnin c)
noncomputable def rqP (rows : List Rq) (n : Str) (c : Nat) : Prop := ∃ r ∈ rows, r.name = n ∧ r.cnt = c
theorem rqNds_names (rs : List Rq) : (rqNds rs).map (·.name) = rs.map (·.name) := by unfold rqNds; rw [List.map_map]; rfl
theorem rq_ndP (vn : Int) (rs : List Rq) : ndP vn (rqNds rs) = rqP rs := by
  funext n c
  apply propext
  unfold ndP rqP
  constructor
  · rintro ⟨e, he, h1, h2⟩
    obtain ⟨r, hr, rfl⟩ := List.mem_map.mp he
    have e := conf_rq vn r
    dsimp only at h1 h2
    rw [e, Int.sub_zero] at h2
    exact ⟨r, hr, h1, h2⟩
  · rintro ⟨r, hr, h1, h2⟩
    refine ⟨⟨r.name, .row r.ad r.kvs⟩, List.mem_map.mpr ⟨r, hr, rfl⟩, h1, ?_⟩
    have e := conf_rq vn r
    dsimp only
    rw [e, Int.sub_zero]
    exact h2
/-- HashRing(conf, hash_fn=chosen) -/
theorem law_newR {w : World} {C : Cx} {ha : Addr} {hIts : List Item} {F : Int} (hB : Bs PP w (hK w.params) gl C) (hF : 1 ≤ F ∧ F ≤ 100) (hh : HOk w C ha hIts (choH F) choDom) {A : Around} {rest : List Item} {s : Shared} {Q E : Value → Shared → Prop} {fdH : FuncData} {nd : Addr} {rows : List Rq} (hro : ∀ r ∈ rows, RqOk r) (hnd : (rows.map (·.name)).Nodup)
    (hA : Rm A 9 90) (hi : (ha, FnI fdH) ∈ rest) (hr0 : ∀ p ∈ hIts, p ∈ rest) (hri : ∀ p ∈ rqIts w rows, p ∈ rest) (H : S C ((nd, DictI (sk PP w) (rqK rows) none) :: rest) s)
    (hQ : ∀ r st s', LQ F st (rqP rows) rows → S C (rgIts w ha r st ++ ((nd, DictI (sk PP w) (rqK rows) none) :: rest)) s' → Q (.ref r.hr) s') : wpAny (model PP w) A (call (.ref 392) [.ref nd] [("hash_fn", .ref ha)]) Q E s := by
  rw [← rqK_nds] at H hQ
  refine law_new hB hF hh (kwok1 ha) (confC_dict hB (rqNds rows) nd (by rw [rqNds_names]; exact hnd)) (fun its hs e he => ?_) (by rw [rqNds_names]; exact hnd) (fun e he => ?_) hA hi hr0 H fun r st s' hl hcf H' => ?_
  · obtain ⟨r, hr, rfl⟩ := List.mem_map.mp he
    exact ⟨hs.subset (hri _ (List.mem_map.mpr ⟨r, hr, rfl⟩)), rowOk_rq _, by simp⟩
  · obtain ⟨r, hr, rfl⟩ := List.mem_map.mp he
    have e := conf_rq 160 r
    have ok := hro r hr
    have b := ok.b
    have b2 : r.v * r.wt ≤ 3 * 2 := Int.mul_le_mul b.2.1 b.2.2.2 (by omega) (by decide)
    dsimp only
    rw [e]
    exact ⟨ok.nm, b.1, by dsimp only; omega, b.2.2.1, by dsimp only; omega, by dsimp only; omega⟩
  · rw [rq_ndP] at hl
    refine hQ r st s' ⟨hl, fun q hq => ?_⟩ H'
    obtain ⟨e, he, h1, h2⟩ := hcf q hq
    obtain ⟨r, hr, rfl⟩ := List.mem_map.mp he
    have e := conf_rq 160 r
    exact ⟨r, hr, h1, h2.symm.trans e⟩

end Mc

namespace Mc

noncomputable def rowPts (F : Int) (r : Rq) : List (Int × Str) := (List.range r.cnt).map fun k => (choH F (keyN r.name k), r.name)
noncomputable def allP (F : Int) (rows : List Rq) : List (Int × Str) := rows.flatMap (rowPts F)
theorem empty_app : ∀ n ∈ lets, Str.empty ++ n = n := by decide +kernel
theorem keyN_eq {n : Str} (h : n ∈ lets) (k : Nat) : n ++ Str.ofString "-" ++ Str.ofString (toString (k : Int)) = keyN n k := by unfold keyN; rw [empty_app n h]
theorem dash_len : ∀ n ∈ lets, n.length + (Str.ofString "-").length ≤ 100 := by decide +kernel
theorem dash_len2 : ∀ n ∈ lets, (n ++ Str.ofString "-").length ≤ 100 := by decide +kernel
theorem num_len : ∀ k : Nat, k < 8 → (Str.ofString (toString (k : Int))).length ≤ 100 := by decide +kernel
theorem sizeLine_ge' : 100 ≤ sizeLine := by rw [sizeLine_eq]; decide
theorem sizeLine_ge'' : 100 + 100 ≤ sizeLine := by rw [sizeLine_eq]; decide
theorem allP_snoc {F : Int} {rows : List Rq} {r : Rq} : allP F (rows ++ [r]) = allP F rows ++ rowPts F r := by
  unfold allP
  rw [List.flatMap_append]; simp
theorem rowPts_step (F : Int) (n : Str) {k : Nat} : (List.range (k + 1)).map (fun k => (choH F (keyN n k), n)) = (List.range k).map (fun k => (choH F (keyN n k), n)) ++ [(choH F (keyN n k), n)] := by
  rw [List.range_succ, List.map_append]; rfl
theorem fm2 (a : Int) : a.fmod 2 = a % 2 := fmod_nn (by decide)
theorem fm3 (a : Int) : a.fmod 3 = a % 3 := fmod_nn (by decide)
theorem fm5 (a : Int) : a.fmod 5 = a % 5 := fmod_nn (by decide)
theorem fd3 (a : Int) : a.fdiv 3 = a / 3 := Int.fdiv_eq_ediv_of_nonneg _ (by decide)
/-- the points of a row -/
theorem segBp (w : World) (C : Cx) (hB : Bs PP w (hK w.params) gl C) (fa L sl : Addr)
   (doc pm : Value)
   (F : Int) (hF : 1 ≤ F ∧ F ≤ 100) (m : Nat) (hm : 1 ≤ m ∧ m ≤ 5) (xs : List Int) (hx : xs.length ≤ 63) (bx ha c' nmA cfA : Addr) (fd : FuncData) (q : Str) (hq : q = fd.qualname) (tl : List Item) (hh : HOk w C ha (choIts ha (L + 6) c' F fd) (choH F) choDom) (row : Rq) (hro : RqOk row) (rows rows2 : List Rq) (hal : (allP F rows).length ≤ 100) (P : Addr) (ts : List Addr) (hts : ts.length = (allP F rows).length) (numV : Option Value) (it : Addr) (itP : Obj → Prop)
   (A : Around) (s : Shared) (Q : Flow → Shared → Prop) (E : Value → Shared → Prop) (hA : Rm A 60 200)
   (H : S C ((it, itP) :: (P, ListI (ts.map .ref)) :: (tupIts ts ((allP F rows).map pairOf) ++ ((L, NsI (frW (some (.ref sl)) (some (.ref bx)) (some (.ref nmA)) (some (.ref P)) numV (some (vi row.cnt)) none none none none none)) :: (clW L (some (.ref ha)) (some (.ref cfA)) (some (vs row.name)) none none (some (vi F)) ++ ((cfA, DictI (sk PP w) (rqK rows2) none) :: (bx, ListI (xs.map vi)) :: (nmA, ListI ((lets.take m).map vs)) :: (ha, FnI fd) :: (c', CodeI q) :: (rqIts w rows2 ++ tl)))))) s)
   (hQ : ∀ P ts s', ts.length = (allP F (rows ++ [row])).length → S C ((it, itP) :: (P, ListI (ts.map .ref)) :: (tupIts ts ((allP F (rows ++ [row])).map pairOf) ++ ((L, NsI (frW (some (.ref sl)) (some (.ref bx)) (some (.ref nmA)) (some (.ref P)) numV (some (vi row.cnt)) none none none none none)) :: (clW L (some (.ref ha)) (some (.ref cfA)) (some (vs row.name)) none none (some (vi F)) ++ ((cfA, DictI (sk PP w) (rqK rows2) none) :: (bx, ListI (xs.map vi)) :: (nmA, ListI ((lets.take m).map vs)) :: (ha, FnI fd) :: (c', CodeI q) :: (rqIts w rows2 ++ tl)))))) s' → Q .next s') :
   wpAny (model PP w) A (execs ((forBody (lawB.drop 6)).drop 3) (lnv fa L doc pm (.ref 407))) Q E s := by
  have hA1 := hA
  refine (show (let env : Env := lenv fa L _ _ _ _ doc pm (.ref 407); wpAny (model PP w) A (execs (_ :: _) env) Q E s) from ?_)
  intro env
  have hcnt := hro.cnt
  have hci : ∀ p ∈ choIts ha (L + 6) c' F fd, p ∈ (it, itP) :: (P, ListI (ts.map .ref)) :: (tupIts ts ((allP F rows).map pairOf) ++ ((L, NsI (frW (some (.ref sl)) (some (.ref bx)) (some (.ref nmA)) (some (.ref P)) numV (some (vi row.cnt)) none none none none none)) :: (clW L (some (.ref ha)) (some (.ref cfA)) (some (vs row.name)) none none (some (vi F)) ++ ((cfA, DictI (sk PP w) (rqK rows2) none) :: (bx, ListI (xs.map vi)) :: (nmA, ListI ((lets.take m).map vs)) :: (ha, FnI fd) :: (c', CodeI q) :: (rqIts w rows2 ++ tl))))) := fun p hp => by
    rcases List.mem_cons.mp hp with rfl | hp
    · walk_at "mb"
    rcases List.mem_cons.mp hp with rfl | hp
    · rw [← hq]; walk_at "mb"
    rw [List.mem_singleton] at hp; subst hp
    walk_at "mb"
  iterate 4 walk1
  refine lc_eval (cl := [("name", L + 3), ("chosen", L + 1)]) rfl rfl (by decide) ?_
  repeat' walk1
  rename_i rgR it2 hit2
  rw [show ((row.cnt : Int) - 0).toNat = row.cnt by omega] at H
  have H : S C ((it2, RangeIt 0 row.cnt 0) :: ((it, itP) :: (P, ListI (ts.map .ref)) :: (tupIts ts ((allP F rows).map pairOf) ++ ((L, NsI (frW (some (.ref sl)) (some (.ref bx)) (some (.ref nmA)) (some (.ref P)) numV (some (vi row.cnt)) none none none none none)) :: (clW L (some (.ref ha)) (some (.ref cfA)) (some (vs row.name)) none none (some (vi F)) ++ ((cfA, DictI (sk PP w) (rqK rows2) none) :: (bx, ListI (xs.map vi)) :: (nmA, ListI ((lets.take m).map vs)) :: (ha, FnI fd) :: (c', CodeI q) :: (rqIts w rows2 ++ tl))))))) s := H.mono (by walk_at "sub")
  have hself : ∀ (Q' E' : Value → Shared → Prop) its' s', S C ((it2, RangeIt 0 row.cnt 0) :: its') s' → Q' (.ref it2) s' → wpAny (model PP w) A (pyIter (.ref it2)) Q' E' s' := fun Q' E' its' s' H' h' => self_range H' h'
  refine lc_go1 (nx_range 0 row.cnt hit2) hA1.hd (fun k ys l => ∃ us : List Addr, ys = us.map .ref ∧ us.length = k ∧ l = tupIts us (((List.range k).map (fun k => (choH F (keyN row.name k), row.name))).map pairOf) ++ ((it, itP) :: (P, ListI (ts.map .ref)) :: (tupIts ts ((allP F rows).map pairOf) ++ ((L, NsI (frW (some (.ref sl)) (some (.ref bx)) (some (.ref nmA)) (some (.ref P)) numV (some (vi row.cnt)) none none none none none)) :: (clW L (some (.ref ha)) (some (.ref cfA)) (some (vs row.name)) none none (some (vi F)) ++ ((cfA, DictI (sk PP w) (rqK rows2) none) :: (bx, ListI (xs.map vi)) :: (nmA, ListI ((lets.take m).map vs)) :: (ha, FnI fd) :: (c', CodeI q) :: (rqIts w rows2 ++ tl))))))) (fun _ _ _ _ _ _ => trivial) (by decide) rfl rfl (by omega) hself ⟨[], rfl, rfl, rfl⟩ H ?_ ?_
  · rintro k v ys l cf D s E' hk ⟨u, rfl⟩ ⟨us, rfl, hus, rfl⟩ hyl H QI2 hQI2
    rw [Int.zero_add] at *
    simp only [List.cons_append, List.nil_append] at H
    repeat' walk1
    have hci2 : ∀ {x1 x2 x3 : Item} {T : List Item}, ∀ p ∈ choIts ha (L + 6) c' F fd, p ∈ x1 :: x2 :: x3 :: (T ++ ((it, itP) :: (P, ListI (ts.map .ref)) :: (tupIts ts ((allP F rows).map pairOf) ++ ((L, NsI (frW (some (.ref sl)) (some (.ref bx)) (some (.ref nmA)) (some (.ref P)) numV (some (vi row.cnt)) none none none none none)) :: (clW L (some (.ref ha)) (some (.ref cfA)) (some (vs row.name)) none none (some (vi F)) ++ ((cfA, DictI (sk PP w) (rqK rows2) none) :: (bx, ListI (xs.map vi)) :: (nmA, ListI ((lets.take m).map vs)) :: (ha, FnI fd) :: (c', CodeI q) :: (rqIts w rows2 ++ tl))))))) := fun p hp => .tail _ (.tail _ (.tail _ (List.mem_append_right _ (hci p hp))))
    refine callWith_F (hh.fn _ _ H hci2) ?_
    iterate 5 walk1
    have hnr := hro.nm
    have hk8 : k < 8 := by omega
    refine add_str (fun _ _ => ?_) (Nat.le_trans (dash_len _ hnr) sizeLine_ge')
    repeat' walk1
    refine add_str (fun _ _ => ?_) (Nat.le_trans (Nat.add_le_add (dash_len2 _ hnr) (num_len k hk8)) sizeLine_ge'')
    rw [keyN_eq hnr]
    repeat' walk1
    · exact hh.fn _ _ H hci2
    refine hh.run _ _ _ _ _ _ _ (cho_dom ⟨hnr, by omega⟩) (hA1.le (by decide) (by decide)) (S.tkTo H rfl rfl rfl) hci2 fun t' s H => ?_
    repeat' walk1
    rename_i tp
    have hus2 : us.length = ((List.range k).map (fun k => (choH F (keyN row.name k), row.name))).length := by rw [List.length_map, List.length_range, hus]
    refine hQI2 _ _ _ ⟨us ++ [tp], by rw [List.map_append]; rfl, by rw [List.length_append, hus]; rfl, rfl⟩ ?_
    rw [rowPts_step, List.map_append, show tupIts (us ++ [tp]) (((List.range k).map (fun k => (choH F (keyN row.name k), row.name))).map pairOf ++ List.map pairOf [(choH F (keyN row.name k), row.name)]) = _ from tupIts_snoc (by rw [List.length_map, hus2]), List.append_assoc]
    have H := S.pick (ps := [(cf, _), (D, _), (it2, _)]) H (by walk_at "pick") (List.Sublist.refl _)
    exact H.perm (List.Perm.append_left [_, _, _] List.perm_middle.symm)
  rintro ys l cf X D s ⟨us, rfl, hus, rfl⟩ hyl hcf H
  refine post_none H hcf fun s H => ?_
  refine r_add_lists (S.tkTo H rfl rfl rfl) (by walk_at "mb") (by walk_at "mb") ?_ fun D3 s H => ?_
  · rw [List.length_map, List.length_map, hts, hus]; omega
  repeat' walk1
  have hR : S C ((it, itP) :: (D3, ListI ((ts ++ us).map .ref)) :: (tupIts us (((List.range row.cnt).map (fun k => (choH F (keyN row.name k), row.name))).map pairOf) ++ (tupIts ts ((allP F rows).map pairOf) ++ ((L, NsI (frW (some (.ref sl)) (some (.ref bx)) (some (.ref nmA)) (some (.ref D3)) numV (some (vi row.cnt)) none none none none none)) :: (clW L (some (.ref ha)) (some (.ref cfA)) (some (vs row.name)) none none (some (vi F)) ++ ((cfA, DictI (sk PP w) (rqK rows2) none) :: (bx, ListI (xs.map vi)) :: (nmA, ListI ((lets.take m).map vs)) :: (ha, FnI fd) :: (c', CodeI q) :: (rqIts w rows2 ++ tl))))))) s := by
    rw [List.map_append]
    have H := S.pick (ps := [(it, _), (D3, _)]) H (by walk_at "pickr") (List.Sublist.refl _)
    exact H.mono ((((List.Sublist.append_left (List.sublist_cons_self _ _) _).cons _).cons_cons _).cons_cons _)
  have hR := hR.perm (List.Perm.append_left [_, _] (List.perm_append_comm_assoc _ _ _))
  have hap : tupIts (ts ++ us) ((allP F (rows ++ [row])).map pairOf) = tupIts ts ((allP F rows).map pairOf) ++ tupIts us (((List.range row.cnt).map (fun k => (choH F (keyN row.name k), row.name))).map pairOf) := by
    rw [allP_snoc, List.map_append]
    unfold tupIts
    rw [List.zip_append (by rw [List.length_map, hts]), List.map_append]; rfl
  refine hQ D3 (ts ++ us) _ ?_ ?_
  · rw [allP_snoc, List.length_append, List.length_append, hts, hus]; simp [rowPts]
  · rw [hap, List.append_assoc]
    exact hR
inductive LpB (w : World) (L sl bx nmA cfA ha c' : Addr) (fd : FuncData) (q : Str) (F : Int) (m : Nat) (tl : List Item) (i : Nat) (its : List Item) : Prop
  | mk (rows : List Rq) (P : Addr) (ts : List Addr) (numV manV naV : Option Value) (xs : List Int) (h1 : rows.map (·.name) = (lets.take m).take i) (h2 : ∀ r ∈ rows, RqOk r) (h3 : ts.length = (allP F rows).length) (h4 : xs.length ≤ 63)
      (h5 : its = (P, ListI (ts.map .ref)) :: (tupIts ts ((allP F rows).map pairOf) ++ ((L, NsI (frW (some (.ref sl)) (some (.ref bx)) (some (.ref nmA)) (some (.ref P)) numV manV none none none none none)) :: (clW L (some (.ref ha)) (some (.ref cfA)) naV none none (some (vi F)) ++ ((cfA, DictI (sk PP w) (rqK rows) none) :: (bx, ListI (xs.map vi)) :: (nmA, ListI ((lets.take m).map vs)) :: (ha, FnI fd) :: (c', CodeI q) :: (rqIts w rows ++ tl)))))) : LpB w L sl bx nmA cfA ha c' fd q F m tl i its
theorem allP_len {F : Int} {rows : List Rq} (h : ∀ r ∈ rows, RqOk r) : (allP F rows).length ≤ 6 * rows.length := by
  induction rows with
  | nil => exact Nat.zero_le _
  | cons r rows ih =>
    have h1 := (h r (.head _)).cnt.2
    have h2 := ih fun r hr => h r (.tail _ hr)
    have e : allP F (r :: rows) = rowPts F r ++ allP F rows := rfl
    rw [e, List.length_append, List.length_cons]
    have e2 : (rowPts F r).length = r.cnt := by unfold rowPts; rw [List.length_map, List.length_range]
    omega
/-- conf and the points -/
theorem segB (w : World) (C : Cx) (hB : Bs PP w (hK w.params) gl C) (fa L sl : Addr)
   (doc pm : Value)
   (F : Int) (hF : 1 ≤ F ∧ F ≤ 100) (m : Nat) (hm : 1 ≤ m ∧ m ≤ 5) (xs : List Int) (hx : xs.length ≤ 63) (bx ha c' nmA cfA : Addr) (fd : FuncData) (q : Str) (hq : q = fd.qualname) (tl : List Item) (hh : HOk w C ha (choIts ha (L + 6) c' F fd) (choH F) choDom) (ptA : Addr)
   (A : Around) (s : Shared) (Q : Flow → Shared → Prop) (E : Value → Shared → Prop) (hA : Rm A 60 200)
   (H : S C ((L, NsI (frW (some (.ref sl)) (some (.ref bx)) (some (.ref nmA)) (some (.ref ptA)) none none none none none none none)) :: (clW L (some (.ref ha)) (some (.ref cfA)) none none none (some (vi F)) ++ ((cfA, DictI (sk PP w) [] none) :: (ptA, ListI []) :: (bx, ListI (xs.map vi)) :: (nmA, ListI ((lets.take m).map vs)) :: (ha, FnI fd) :: (c', CodeI q) :: tl))) s)
   (hQ : ∀ (rows : List Rq) (P : Addr) (ts : List Addr) (numV manV naV : Option Value) (xs : List Int) s', rows.map (·.name) = lets.take m → (∀ r ∈ rows, RqOk r) → ts.length = (allP F rows).length → xs.length ≤ 63 → S C ((P, ListI (ts.map .ref)) :: (tupIts ts ((allP F rows).map pairOf) ++ ((L, NsI (frW (some (.ref sl)) (some (.ref bx)) (some (.ref nmA)) (some (.ref P)) numV manV none none none none none)) :: (clW L (some (.ref ha)) (some (.ref cfA)) naV none none (some (vi F)) ++ ((cfA, DictI (sk PP w) (rqK rows) none) :: (bx, ListI (xs.map vi)) :: (nmA, ListI ((lets.take m).map vs)) :: (ha, FnI fd) :: (c', CodeI q) :: (rqIts w rows ++ tl)))))) s' → wpAny (model PP w) A (execs (lawB.drop 7) (lnv fa L doc pm (.ref 407))) Q E s') :
   wpAny (model PP w) A (execs (lawB.drop 6) (lnv fa L doc pm (.ref 407))) Q E s := by
  have hbp := segBp w C hB fa L sl doc pm F hF m hm
  have hA1 := hA
  refine (show (let env : Env := lenv fa L _ _ _ _ doc pm (.ref 407); wpAny (model PP w) A (execs (_ :: _) env) Q E s) from ?_)
  intro env
  simp only [List.cons_append, List.nil_append] at H
  iterate 4 walk1
  rename_i it hit
  have H : S C ((it, ListIt nmA 0) :: (ptA, ListI (([] : List Addr).map .ref)) :: (tupIts ([] : List Addr) ((allP F []).map pairOf) ++ ((L, NsI (frW (some (.ref sl)) (some (.ref bx)) (some (.ref nmA)) (some (.ref ptA)) none none none none none none none)) :: (clW L (some (.ref ha)) (some (.ref cfA)) none none none (some (vi F)) ++ ((cfA, DictI (sk PP w) (rqK []) none) :: (bx, ListI (xs.map vi)) :: (nmA, ListI ((lets.take m).map vs)) :: (ha, FnI fd) :: (c', CodeI q) :: (rqIts w [] ++ tl)))))) s := S.pick (ps := [(it, _), (ptA, _), (L, _), (L + 6, _), (L + 5, _), (L + 4, _), (L + 3, _), (L + 2, _), (L + 1, _), (cfA, _), (bx, _), (nmA, _), (ha, _), (c', _)]) H (by walk_at "pick") (by walk_at "sub")
  refine for_nx1 (nx_list nmA ((lets.take m).map vs) hit) hA1.hd (LpB w L sl bx nmA cfA ha c' fd q F m tl) ?_ ⟨[], ptA, [], none, none, none, xs, by simp, by simp, rfl, hx, rfl⟩ H ?_ ?_
  · rintro i l ⟨rows, P, ts, numV, manV, naV, xs', h1, h2, h3, h4, rfl⟩
    walk_at "mb"
  · rintro i v l s E' hi ⟨X', hx', he⟩ ⟨rows, P, ts, numV, manV, naV, xs', h1, h2, h3, h4, rfl⟩ H QI hQI
    have hi' : i < (lets.take m).length := by simpa using hi
    rw [List.getElem?_map, List.getElem?_eq_getElem hi'] at hx'
    cases hx'
    obtain ⟨t, rfl⟩ := str_of_er he
    have hstep : (lets.take m).take (i + 1) = (lets.take m).take i ++ [(lets.take m)[i]] := by rw [List.take_add_one, List.getElem?_eq_getElem hi']; rfl
    have hnot : (lets.take m)[i] ∉ rows.map (·.name) := by
      rw [h1]
      intro hmem
      obtain ⟨j, hj, e⟩ := List.mem_iff_getElem.mp hmem
      rw [List.getElem_take] at e
      rw [List.length_take] at hj
      have nd : (lets.take m).Nodup := (by decide +kernel : lets.Nodup).sublist (List.take_sublist _ _)
      have := (List.getElem_inj nd).mp e
      omega
    have hnm : (lets.take m)[i] ∈ lets := List.mem_of_mem_take (List.getElem_mem hi')
    generalize (lets.take m)[i] = name at *
    have hrl : rows.length ≤ 6 := by
      have := congrArg List.length h1
      rw [List.length_map, List.length_take, List.length_take] at this
      have : lets.length = 6 := rfl
      omega
    have hlen : (rqK rows).length ≤ 6 := by unfold rqK; rw [List.length_map]; exact hrl
    simp only [List.cons_append, List.nil_append] at H
    repeat' walk1
    have hx3 : xs'.tail.length ≤ 63 := by rw [List.length_tail]; omega
    have b2 : 0 ≤ (xs'.headD 0).fmod 2 ∧ (xs'.headD 0).fmod 2 < 2 := by rw [fm2]; omega
    refine r_str_int (by omega) fun _ => ?_
    iterate 12 walk1
    simp only [fm2, fm3, fm5, fd3] at H
    generalize (Str.ofString "host " ++ Str.ofString (toString ((xs'.headD 0) % 2))) = host at *
    generalize xs'.headD 0 = nu at *
    generalize xs'.tail = xs1 at *
    obtain ⟨d, H⟩ : ∃ d, S C ([(it, ListIt nmA (i + 1)), (d, DictI (sk PP w) (Rq.kvs ⟨d, name, 1 + nu % 3, 1 + nu / 3 % 2, host, nu % 5⟩) none)] ++ ((P, ListI (ts.map .ref)) :: (tupIts ts ((allP F rows).map pairOf) ++ ((L, NsI (frW (some (.ref sl)) (some (.ref bx)) (some (.ref nmA)) (some (.ref P)) (some (vi nu)) (some (vi ((1 + nu % 3) * (1 + nu / 3 % 2)))) none none none none none)) :: (clW L (some (.ref ha)) (some (.ref cfA)) (some (vs name)) none none (some (vi F)) ++ ((cfA, DictI (sk PP w) (stored (rqK rows) name (.ref d)) none) :: (bx, ListI (xs1.map vi)) :: (nmA, ListI ((lets.take m).map vs)) :: (ha, FnI fd) :: (c', CodeI q) :: (rqIts w rows ++ tl))))))) s := ⟨_, H.perm (List.Perm.swap _ _ _)⟩
    have e1 : stored (rqK rows) name (Value.ref d) = rqK (rows ++ [⟨d, name, 1 + nu % 3, 1 + nu / 3 % 2, host, nu % 5⟩]) := by
      rw [stored_new]
      · unfold rqK; rw [List.map_append]; rfl
      · have : (rqK rows).map (·.1) = rows.map (·.name) := by unfold rqK; rw [List.map_map]; rfl
        rw [this]
        cases hc : (rows.map (·.name)).contains name with
        | false => rfl
        | true => exact absurd (List.contains_iff_mem.mp hc) hnot
    rw [e1] at H
    have hro : RqOk ⟨d, name, 1 + nu % 3, 1 + nu / 3 % 2, host, nu % 5⟩ := ⟨hnm, by dsimp only; omega⟩
    have ecnt : ((Rq.cnt ⟨d, name, 1 + nu % 3, 1 + nu / 3 % 2, host, nu % 5⟩ : Nat) : Int) = (1 + nu % 3) * (1 + nu / 3 % 2) := by
      show (((1 + nu % 3) * (1 + nu / 3 % 2)).toNat : Int) = _
      exact Int.toNat_of_nonneg (Int.mul_nonneg (by omega) (by omega))
    rw [← ecnt] at H
    have e2 : rqIts w (rows ++ [⟨d, name, 1 + nu % 3, 1 + nu / 3 % 2, host, nu % 5⟩]) = rqIts w rows ++ [(d, DictI (sk PP w) (Rq.kvs ⟨d, name, 1 + nu % 3, 1 + nu / 3 % 2, host, nu % 5⟩) none)] := by unfold rqIts; rw [List.map_append]; rfl
    generalize hrow : (⟨d, name, 1 + nu % 3, 1 + nu / 3 % 2, host, nu % 5⟩ : Rq) = row at *
    have hname : name = row.name := by rw [← hrow]
    have H : S C ((it, ListIt nmA (i + 1)) :: (P, ListI (ts.map .ref)) :: (tupIts ts ((allP F rows).map pairOf) ++ ((L, NsI (frW (some (.ref sl)) (some (.ref bx)) (some (.ref nmA)) (some (.ref P)) (some (vi nu)) (some (vi row.cnt)) none none none none none)) :: (clW L (some (.ref ha)) (some (.ref cfA)) (some (vs row.name)) none none (some (vi F)) ++ ((cfA, DictI (sk PP w) (rqK (rows ++ [row])) none) :: (bx, ListI (xs1.map vi)) :: (nmA, ListI ((lets.take m).map vs)) :: (ha, FnI fd) :: (c', CodeI q) :: (rqIts w (rows ++ [row]) ++ tl)))))) s := by
      rw [e2]
      rw [hname] at H
      refine H.perm ?_
      have hp := (List.perm_middle (a := ((d, DictI (sk PP w) row.kvs none) : Item)) (l₁ := (P, ListI (ts.map .ref)) :: (tupIts ts ((allP F rows).map pairOf) ++ ((L, NsI (frW (some (.ref sl)) (some (.ref bx)) (some (.ref nmA)) (some (.ref P)) (some (vi nu)) (some (vi row.cnt)) none none none none none)) :: (clW L (some (.ref ha)) (some (.ref cfA)) (some (vs row.name)) none none (some (vi F)) ++ ((cfA, DictI (sk PP w) (rqK (rows ++ [row])) none) :: (bx, ListI (xs1.map vi)) :: (nmA, ListI ((lets.take m).map vs)) :: (ha, FnI fd) :: (c', CodeI q) :: (rqIts w rows)))))) (l₂ := tl)).symm
      have hp2 := List.Perm.cons ((it, ListIt nmA (i + 1)) : Item) hp
      simpa [List.append_assoc] using hp2
    have hal := allP_len (F := F) h2
    refine hbp xs1 hx3 bx ha c' nmA cfA fd q hq tl hh row hro rows (rows ++ [row]) (by omega) P ts h3 (some (vi nu)) it _ A s _ E' hA H fun P2 ts2 s2 hts2 H2 => ?_
    refine hQI _ _ (TurnEnd.next ⟨rows ++ [row], P2, ts2, some (vi nu), some (vi row.cnt), some (vs row.name), xs1, ?_, ?_, hts2, hx3, rfl⟩ H2)
    · rw [hstep, List.map_append, h1, hname]; rfl
    · intro r hr
      rcases List.mem_append.mp hr with hr | hr
      · exact h2 r hr
      · rw [List.mem_singleton] at hr
        subst hr
        exact hro
  · rintro l s E' ⟨rows, P, ts, numV, manV, naV, xs', h1, h2, h3, h4, rfl⟩ H
    walk1
    rw [List.take_of_length_le (by simp)] at h1
    exact hQ rows P ts numV manV naV xs' s h1 h2 h3 h4 H

end Mc

namespace Mc

theorem mem_allP {F : Int} {rows : List Rq} {p : Int} {n : Str} : (p, n) ∈ allP F rows ↔ ∃ c k, rqP rows n c ∧ k < c ∧ p = choH F (keyN n k) := by
  constructor
  · intro h
    obtain ⟨r, hr, h⟩ := List.mem_flatMap.mp h
    obtain ⟨k, hk, e⟩ := List.mem_map.mp h
    injection e with e1 e2
    subst e1 e2
    exact ⟨_, k, ⟨r, hr, rfl, rfl⟩, List.mem_range.mp hk, rfl⟩
  · rintro ⟨c, k, ⟨r, hr, rfl, rfl⟩, hk, rfl⟩
    exact List.mem_flatMap.mpr ⟨r, hr, List.mem_map.mpr ⟨k, List.mem_range.mpr hk, rfl⟩⟩
theorem RqOk.dd {r : Rq} (h : RqOk r) : ∀ k, k < r.cnt → DD r.name k := fun k hk => ⟨h.nm, by have := h.cnt.2; omega⟩
theorem allP_nd {F : Int} (hF : 1 ≤ F ∧ F ≤ 100) : ∀ {rows : List Rq}, (rows.map (·.name)).Nodup → (∀ r ∈ rows, RqOk r) → ((allP F rows).map (·.1)).Nodup
  | [], _, _ => by simp [allP]
  | r :: rows, nd, ho => by
    rw [List.map_cons, List.nodup_cons] at nd
    have ih := allP_nd hF nd.2 fun q hq => ho q (.tail _ hq)
    have hA := cho_apart hF.1 hF.2
    have hr := ho r (.head _)
    have e : allP F (r :: rows) = rowPts F r ++ allP F rows := List.flatMap_cons
    rw [e, List.map_append, List.nodup_append]
    refine ⟨?_, ih, fun p hp q hq e => ?_⟩
    · unfold rowPts
      rw [List.map_map]
      refine List.Pairwise.map _ (R := fun a b => a < r.cnt ∧ b < r.cnt ∧ a ≠ b) (fun a b h e => h.2.2 (hA _ _ _ _ (hr.dd a h.1) (hr.dd b h.2.1) e).2) ?_
      refine List.pairwise_iff_getElem.mpr fun i j hi hj hij => ?_
      rw [List.getElem_range, List.getElem_range]
      rw [List.length_range] at hi hj
      exact ⟨hi, hj, Nat.ne_of_lt hij⟩
    · obtain ⟨⟨p1, n1⟩, h1, rfl⟩ := List.mem_map.mp hp
      obtain ⟨⟨p2, n2⟩, h2, rfl⟩ := List.mem_map.mp hq
      dsimp only at e
      unfold rowPts at h1
      obtain ⟨k, hk, e1⟩ := List.mem_map.mp h1
      injection e1 with e1 e2
      obtain ⟨c, k2, ⟨q, hq, e3, rfl⟩, hk2, e4⟩ := mem_allP.mp h2
      have hqd := (ho q (.tail _ hq)).dd k2 hk2
      rw [e3] at hqd
      have := (hA _ _ _ _ (hr.dd k (List.mem_range.mp hk)) hqd (e1.trans (e.trans e4))).1
      exact nd.1 (by rw [this, ← e3]; exact List.mem_map_of_mem hq)
theorem zip_perm {ts ts' : List Addr} {rs rs' : List (Int × Str)} (h : (ts'.zip rs').Perm (ts.zip rs)) : (tupIts ts' (rs'.map pairOf)).Perm (tupIts ts (rs.map pairOf)) := by
  unfold tupIts
  rw [List.zip_map_right, List.map_map, List.zip_map_right, List.map_map]
  exact h.map _
theorem zip_rows {ts ts' : List Addr} {rs rs' : List (Int × Str)} (h : (ts'.zip rs').Perm (ts.zip rs)) (h1 : ts'.length = rs'.length) (h2 : ts.length = rs.length) : rs'.Perm rs := by
  have := h.map Prod.snd
  rw [List.map_snd_zip (by omega), List.map_snd_zip (by omega)] at this
  exact this
theorem nodup_inj {α β : Type} {f : α → β} : ∀ {l : List α}, (l.map f).Nodup → ∀ {a b}, a ∈ l → b ∈ l → f a = f b → a = b
  | [], _, _, _, h, _, _ => nomatch h
  | x :: l, nd, a, b, ha, hb, e => by
    rw [List.map_cons, List.nodup_cons] at nd
    rcases List.mem_cons.mp ha with h1 | h1
    · rcases List.mem_cons.mp hb with h2 | h2
      · rw [h1, h2]
      · exact absurd (by rw [← h1, e]; exact List.mem_map_of_mem h2) nd.1
    · rcases List.mem_cons.mp hb with h2 | h2
      · exact absurd (by rw [← h2, ← e]; exact List.mem_map_of_mem h1) nd.1
      · exact nodup_inj nd.2 h1 h2 e
theorem take_nd (m : Nat) : (lets.take m).Nodup := (by decide +kernel : lets.Nodup).sublist (List.take_sublist _ _)
/-- the points of the law, sorted -/
structure PtsOk (F : Int) (rows : List Rq) (ps : List (Int × Str)) : Prop where
  pm : ps.Perm (allP F rows)
  so : (ps.map (·.1)).Pairwise (· < ·)
theorem segC (w : World) (C : Cx) (hB : Bs PP w (hK w.params) gl C) (fa L sl : Addr)
   (doc pm : Value)
   (F : Int) (hF : 1 ≤ F ∧ F ≤ 100) (m : Nat) (hm : 1 ≤ m ∧ m ≤ 5) (xs : List Int) (hx : xs.length ≤ 63) (bx ha c' nmA cfA P : Addr) (fd : FuncData) (q : Str) (hq : q = fd.qualname) (hh : HOk w C ha (choIts ha (L + 6) c' F fd) (choH F) choDom) (rows : List Rq) (hrn : rows.map (·.name) = lets.take m) (hro : ∀ r ∈ rows, RqOk r) (numV manV naV : Option Value) (Z : List Item) (ts : List Addr) (hts : ts.length = (allP F rows).length)
   (A : Around) (s : Shared) (Q : Flow → Shared → Prop) (E : Value → Shared → Prop) (hA : Rm A 60 200)
   (H : S C ((P, ListI (ts.map .ref)) :: (tupIts ts ((allP F rows).map pairOf) ++ ((L, NsI (frW (some (.ref sl)) (some (.ref bx)) (some (.ref nmA)) (some (.ref P)) numV manV none none none none none)) :: (clW L (some (.ref ha)) (some (.ref cfA)) naV none none (some (vi F)) ++ ((cfA, DictI (sk PP w) (rqK rows) none) :: (bx, ListI (xs.map vi)) :: (nmA, ListI ((lets.take m).map vs)) :: (ha, FnI fd) :: (c', CodeI q) :: Z))))) s)
   (hQ : ∀ ts pts s', PtsOk F rows pts → ts.length = pts.length → S C ((P, ListI (ts.map .ref)) :: (tupIts ts (pts.map pairOf) ++ ((L, NsI (frW (some (.ref sl)) (some (.ref bx)) (some (.ref nmA)) (some (.ref P)) numV manV none none none none none)) :: (clW L (some (.ref ha)) (some (.ref cfA)) naV none none (some (vi F)) ++ ((cfA, DictI (sk PP w) (rqK rows) none) :: (bx, ListI (xs.map vi)) :: (nmA, ListI ((lets.take m).map vs)) :: (ha, FnI fd) :: (c', CodeI q) :: Z))))) s' → wpAny (model PP w) A (execs (lawB.drop 8) (lnv fa L doc pm (.ref 407))) Q E s') :
   wpAny (model PP w) A (execs (lawB.drop 7) (lnv fa L doc pm (.ref 407))) Q E s := by
  have hA1 := hA
  refine (show (let env : Env := lenv fa L _ _ _ _ doc pm (.ref 407); wpAny (model PP w) A (execs (_ :: _) env) Q E s) from ?_)
  intro env
  simp only [List.cons_append, List.nil_append] at H
  have hal := allP_len (F := F) hro
  have hrl : rows.length ≤ 5 := by
    have := congrArg List.length hrn
    rw [List.length_map, List.length_take] at this
    omega
  have hnd : (rows.map (·.name)).Nodup := by rw [hrn]; exact take_nd m
  iterate 6 walk1
  refine r_lsort (itsF := fun X => (P, X) :: (tupIts ts ((allP F rows).map pairOf) ++ ((L, NsI (frW (some (.ref sl)) (some (.ref bx)) (some (.ref nmA)) (some (.ref P)) numV manV none none none none none)) :: (clW L (some (.ref ha)) (some (.ref cfA)) naV none none (some (vi F)) ++ ((cfA, DictI (sk PP w) (rqK rows) none) :: (bx, ListI (xs.map vi)) :: (nmA, ListI ((lets.take m).map vs)) :: (ha, FnI fd) :: (c', CodeI q) :: Z))))) (S.tkTo H rfl rfl rfl) (fun _ _ => .head) hts (fun X p hp => .tail _ (List.mem_append_left _ hp)) (allP_nd hF hnd hro) (by omega) fun ts' rs' s hl hp hs H => ?_
  refine hQ ts' rs' s ⟨zip_rows hp hl hts, hs⟩ hl ?_
  exact H.perm (List.Perm.cons _ ((zip_perm hp).symm.append_right _))
/-- the ring; a node goes and comes again; size -/
theorem segD (w : World) (C : Cx) (hB : Bs PP w (hK w.params) gl C) (fa L sl : Addr)
   (doc pm : Value)
   (F : Int) (hF : 1 ≤ F ∧ F ≤ 100) (m : Nat) (hm : 1 ≤ m ∧ m ≤ 5) (xs : List Int) (hx : xs.length ≤ 63) (bx ha c' nmA cfA P : Addr) (fd : FuncData) (q : Str) (hq : q = fd.qualname) (hh : HOk w C ha (choIts ha (L + 6) c' F fd) (choH F) choDom) (rows : List Rq) (hrn : rows.map (·.name) = lets.take m) (hro : ∀ r ∈ rows, RqOk r) (numV manV naV : Option Value) (Z : List Item) (hZr : ∀ p ∈ rqIts w rows, p ∈ Z)
   (A : Around) (s : Shared) (Q : Flow → Shared → Prop) (E : Value → Shared → Prop) (hA : Rm A 60 200)
   (H : S C ((L, NsI (frW (some (.ref sl)) (some (.ref bx)) (some (.ref nmA)) (some (.ref P)) numV manV none none none none none)) :: (clW L (some (.ref ha)) (some (.ref cfA)) naV none none (some (vi F)) ++ ((cfA, DictI (sk PP w) (rqK rows) none) :: (bx, ListI (xs.map vi)) :: (nmA, ListI ((lets.take m).map vs)) :: (ha, FnI fd) :: (c', CodeI q) :: Z))) s)
   (hQ : ∀ (r : Rg) (st : RS) (one : Str) (size : Int) (xs : List Int) s', xs.length ≤ 63 → LQ F st (rqP rows) rows → 1 ≤ size ∧ size ≤ 7 → S C (rgIts w ha r st ++ ((L, NsI (frW (some (.ref sl)) (some (.ref bx)) (some (.ref nmA)) (some (.ref P)) numV manV (some (vs one)) (some (vi size)) none none none)) :: (clW L (some (.ref ha)) (some (.ref cfA)) naV (some (.ref r.hr)) none (some (vi F)) ++ ((cfA, DictI (sk PP w) (rqK rows) none) :: (bx, ListI (xs.map vi)) :: (nmA, ListI ((lets.take m).map vs)) :: (ha, FnI fd) :: (c', CodeI q) :: Z)))) s' → wpAny (model PP w) A (execs (lawB.drop 13) (lnv fa L doc pm (.ref 407))) Q E s') :
   wpAny (model PP w) A (execs (lawB.drop 8) (lnv fa L doc pm (.ref 407))) Q E s := by
  have hA1 := hA
  refine (show (let env : Env := lenv fa L _ _ _ _ doc pm (.ref 407); wpAny (model PP w) A (execs (_ :: _) env) Q E s) from ?_)
  intro env
  simp only [List.cons_append, List.nil_append] at H
  have hnd : (rows.map (·.name)).Nodup := by rw [hrn]; exact take_nd m
  have hcho : ∀ {X : List Item}, (∀ p ∈ [(ha, FnI fd), (c', CodeI q), (L + 6, CellI (some (vi F)))], p ∈ X) → ∀ p ∈ choIts ha (L + 6) c' F fd, p ∈ X := fun hX p hp => by
    rcases List.mem_cons.mp hp with rfl | hp
    · exact hX _ (.head _)
    rcases List.mem_cons.mp hp with rfl | hp
    · exact hX _ (by rw [← hq]; exact .tail _ (.head _))
    rw [List.mem_singleton] at hp; subst hp
    exact hX _ (.tail _ (.tail _ (.head _)))
  repeat' walk1
  have H0 : S C ((cfA, DictI (sk PP w) (rqK rows) none) :: ((L, NsI (frW (some (.ref sl)) (some (.ref bx)) (some (.ref nmA)) (some (.ref P)) numV manV none none none none none)) :: (clW L (some (.ref ha)) (some (.ref cfA)) naV none none (some (vi F)) ++ ((bx, ListI (xs.map vi)) :: (nmA, ListI ((lets.take m).map vs)) :: (ha, FnI fd) :: (c', CodeI q) :: Z)))) s := S.pick (ps := [(cfA, _), (L, _), (L + 6, _), (L + 5, _), (L + 4, _), (L + 3, _), (L + 2, _), (L + 1, _), (bx, _), (nmA, _), (ha, _), (c', _)]) H (by walk_at "pick") (by walk_at "sub")
  clear H
  refine law_newR hB hF hh hro hnd (hA1.le (by decide) (by decide)) (fdH := fd) (by walk_at "mb") (hcho fun p hp => ?_) (fun p hp => ?_) H0 fun r st s hl H => ?_
  · rcases List.mem_cons.mp hp with rfl | hp
    · walk_at "mb"
    rcases List.mem_cons.mp hp with rfl | hp
    · walk_at "mb"
    rw [List.mem_singleton] at hp; subst hp
    walk_at "mb"
  · have h1 := hZr p hp
    walk_at "mb"
  have H : S C (rgIts w ha r st ++ ((L, NsI (frW (some (.ref sl)) (some (.ref bx)) (some (.ref nmA)) (some (.ref P)) numV manV none none none none none)) :: (clW L (some (.ref ha)) (some (.ref cfA)) naV none none (some (vi F)) ++ ((cfA, DictI (sk PP w) (rqK rows) none) :: (bx, ListI (xs.map vi)) :: (nmA, ListI ((lets.take m).map vs)) :: (ha, FnI fd) :: (c', CodeI q) :: Z)))) s := S.pickR (ps := [(L, _), (L + 6, _), (L + 5, _), (L + 4, _), (L + 3, _), (L + 2, _), (L + 1, _), (cfA, _), (bx, _), (nmA, _), (ha, _), (c', _)]) H (by walk_at "pick") (List.Sublist.refl _)
  clear H0
  simp only [List.cons_append, List.nil_append] at H
  iterate 15 walk1
  have hx3 : xs.tail.length ≤ 63 := by rw [List.length_tail]; omega
  generalize xs.headD 0 = r0 at *
  generalize xs.tail = xs1 at *
  have hlen : ((lets.take m).map vs).length = m := by
    rw [List.length_map, List.length_take]
    have : lets.length = 6 := rfl
    omega
  iterate 7 walk1
  rw [hlen]
  have hm0 : (0 : Int) < (m : Int) := by omega
  have g1 : 0 ≤ r0.fmod (m : Int) := by rw [fmod_nn hm0]; exact Int.emod_nonneg _ (by omega)
  have g4 : r0.fmod (m : Int) < (m : Int) := by rw [fmod_nn hm0]; exact Int.emod_lt_of_pos _ hm0
  have g2 : r0.fmod (m : Int) < 9223372036854775808 := by omega
  have hlt : (r0.fmod (m : Int)).toNat < (lets.take m).length := by rw [List.length_map] at hlen; omega
  obtain ⟨one, hone, hmem⟩ : ∃ one, (lets.take m)[(r0.fmod (m : Int)).toNat]? = some one ∧ one ∈ lets.take m := ⟨_, List.getElem?_eq_getElem hlt, List.getElem_mem hlt⟩
  have g3 : ((lets.take m).map vs)[(r0.fmod (m : Int)).toNat]? = some (vs one) := by rw [List.getElem?_map, hone]; rfl
  iterate 3 walk1
  obtain ⟨row, hrow, rfl⟩ : ∃ row ∈ rows, row.name = one := by
    rw [← hrn] at hmem
    exact List.mem_map.mp hmem
  have hv : valueAt (rqK rows) row.name = some (.ref row.ad) := by
    refine valueAt_mem (us := rqK rows) ?_ (List.mem_map.mpr ⟨row, hrow, rfl⟩)
    have : (rqK rows).map (·.1) = rows.map (·.name) := by unfold rqK; rw [List.map_map]; rfl
    rw [this]; exact hnd
  repeat' walk1
  refine law_rm hB hF hl (hA1.le (by decide) (by decide)) ⟨row.cnt, row, hrow, rfl, rfl⟩ H fun st s hl2 H => ?_
  repeat' walk1
  refine law_add hB hF hl2 hh row hrow (hro row hrow) (fun c h => h.1 rfl) (hA1.le (by decide) (by decide)) (hcho fun p hp => ?_) ?_ H fun st s hl3 H => ?_
  · rcases List.mem_cons.mp hp with rfl | hp
    · walk_at "mb"
    rcases List.mem_cons.mp hp with rfl | hp
    · walk_at "mb"
    rw [List.mem_singleton] at hp; subst hp
    walk_at "mb"
  · have h1 := hZr _ (List.mem_map.mpr ⟨row, hrow, rfl⟩)
    walk_at "mb"
  have hl4 : LQ F st (rqP rows) rows := by
    have e : addP (rmP (rqP rows) row.name) row.name row.cnt = rqP rows := by
      funext n c
      apply propext
      constructor
      · rintro (⟨rfl, rfl⟩ | ⟨_, _, h⟩)
        · exact ⟨row, hrow, rfl, rfl⟩
        · exact h
      · rintro ⟨r', hr', rfl, rfl⟩
        by_cases e : r'.name = row.name
        · obtain rfl := nodup_inj hnd hr' hrow e
          exact .inl ⟨rfl, rfl⟩
        · exact .inr ⟨e, e, r', hr', rfl, rfl⟩
    rw [e] at hl3
    exact hl3
  iterate 18 walk1
  refine hQ r st row.name _ xs1.tail s (by rw [List.length_tail]; omega) hl4 ?_ H
  rw [fmod_nn (by decide)]; omega

end Mc

namespace Mc
noncomputable def nmF (rl : List (Int × Value)) (x : Int) : Str := match valueAt rl x with | some (.str n _) => n | _ => ""
noncomputable def adF (nl : Nl) (n : Str) : Addr := match valueAt (nlK nl) n with | some (.ref a) => a | _ => 0
section
variable {w : World} {F : Int} {st : RS} {rows : List Rq}
theorem LQ.nd (l : LQ F st (rqP rows) rows) {n : Str} (h : n ∈ st.nl.map (·.1)) : ∃ a c, (n, a, c) ∈ st.nl ∧ valueAt (nlK st.nl) n = some (.ref a) ∧ adF st.nl n = a := by
  obtain ⟨⟨n', a, c⟩, hm, rfl⟩ := List.mem_map.mp h
  have hv : valueAt (nlK st.nl) n' = some (.ref a) := valueAt_mem (us := nlK st.nl) (by rw [nlK_keys]; exact l.lr.ring.ok.nd) (List.mem_map.mpr ⟨_, hm, rfl⟩)
  exact ⟨a, c, hm, hv, by unfold adF; rw [hv]⟩
theorem LQ.nm (l : LQ F st (rqP rows) rows) : ∀ x ∈ st.ns, valueAt st.m.rl x = some (vs (nmF st.m.rl x)) ∧ valueAt (nlK st.nl) (nmF st.m.rl x) = some (.ref (adF st.nl (nmF st.m.rl x))) ∧ ∃ r ∈ rows, r.name = nmF st.m.rl x := by
  intro x hx
  have h1 := l.lr.ring.ok.pm.mem_iff.mp hx
  obtain ⟨X, hX⟩ := Option.isSome_iff_exists.mp (valueAt_isSome.mpr h1)
  obtain ⟨n, c, k, hP, hk, rfl, rfl⟩ := (l.lr.ring.mr.pt x X).mp hX
  have e : nmF st.m.rl (choH F (keyN n k)) = n := by unfold nmF; rw [hX]
  rw [e]
  obtain ⟨a, c', hm, hv, ha⟩ := l.nd ((l.lr.ring.nls n).mpr ⟨c, hP⟩)
  obtain ⟨r, hr, h1, _⟩ := hP
  exact ⟨hX, by rw [ha]; exact hv, r, hr, h1⟩
theorem LQ.ad (l : LQ F st (rqP rows) rows) (hnd : (rows.map (·.name)).Nodup) {r : Rq} (hr : r ∈ rows) : valueAt (nlK st.nl) r.name = some (.ref (adF st.nl r.name)) ∧ (adF st.nl r.name, DictI (sk PP w) r.cf.kvs none) ∈ nlIts w st.nl := by
  obtain ⟨a, c, hm, hv, ha⟩ := l.nd ((l.lr.ring.nls r.name).mpr ⟨r.cnt, r, hr, rfl, rfl⟩)
  obtain ⟨r', hr', h1, h2⟩ := l.cf _ hm
  obtain rfl := nodup_inj hnd hr' hr h1
  refine ⟨by rw [ha]; exact hv, ?_⟩
  rw [ha]
  exact List.mem_map.mpr ⟨_, hm, by rw [h2]⟩
theorem LQ.pts (l : LQ F st (rqP rows) rows) (nd : (st.m.rl.map (·.1)).Nodup) {pts : List (Int × Str)} (h : PtsOk F rows pts) : pts.map (·.1) = st.ns ∧ ∀ p ∈ pts, nmF st.m.rl p.1 = p.2 := by
  have hv : ∀ p ∈ pts, valueAt st.m.rl p.1 = some (vs p.2) := fun p hp => by
    obtain ⟨c, k, h2, h3, h4⟩ := mem_allP.mp (h.pm.mem_iff.mp (show (p.1, p.2) ∈ pts from hp))
    exact (l.lr.ring.mr.pt p.1 (vs p.2)).mpr ⟨p.2, c, k, h2, h3, h4, rfl⟩
  refine ⟨?_, fun p hp => by unfold nmF; rw [hv p hp]⟩
  have hK : (pts.map (·.1)).Perm st.ns := by
    have nd1 : (pts.map (·.1)).Nodup := h.so.imp fun h => Int.ne_of_lt h
    refine List.Perm.trans ?_ l.lr.ring.ok.pm.symm
    refine (List.perm_ext_iff_of_nodup nd1 nd).mpr fun p => ?_
    rw [← valueAt_isSome]
    constructor
    · intro hp
      obtain ⟨q, hq, rfl⟩ := List.mem_map.mp hp
      rw [hv q hq]; rfl
    · intro hp
      obtain ⟨X, hX⟩ := Option.isSome_iff_exists.mp hp
      obtain ⟨n, c, k, h2, h3, h4, _⟩ := (l.lr.ring.mr.pt p X).mp hX
      exact List.mem_map.mpr ⟨(p, n), h.pm.mem_iff.mpr (mem_allP.mpr ⟨c, k, h2, h3, h4⟩), rfl⟩
  exact sorted_eq hK (h.so.imp fun h => Int.le_of_lt h) l.lr.ring.ok.so
end
/-- once around -/
noncomputable def arL (pts : List (Int × Str)) (K : Int) : List Str := (pts.filter fun q => decide (K < q.1)).map (·.2) ++ (pts.filter fun q => decide (q.1 < K)).map (·.2)
theorem filt_sorted : ∀ {pts : List (Int × Str)} {K : Int}, (pts.map (·.1)).Pairwise (· < ·) → (∀ q ∈ pts, q.1 ≠ K) →
    (pts.filter fun q => decide (q.1 < K)) = pts.take ((pts.map (·.1)).filter fun n => decide (n ≤ K)).length ∧ (pts.filter fun q => decide (K < q.1)) = pts.drop ((pts.map (·.1)).filter fun n => decide (n ≤ K)).length
  | [], _, _, _ => ⟨rfl, rfl⟩
  | p :: pts, K, hs, hne => by
    rw [List.map_cons, List.pairwise_cons] at hs
    have ih := filt_sorted (K := K) hs.2 fun q hq => hne q (.tail _ hq)
    have hp := hne p (.head _)
    by_cases h : p.1 ≤ K
    · have h1 : p.1 < K := by omega
      have a1 : ((p :: pts).filter fun q => decide (q.1 < K)) = p :: pts.filter fun q => decide (q.1 < K) := List.filter_cons_of_pos (decide_eq_true h1)
      have a2 : ((p :: pts).filter fun q => decide (K < q.1)) = pts.filter fun q => decide (K < q.1) := List.filter_cons_of_neg (by simp; omega)
      have a3 : ((p.1 :: pts.map (·.1)).filter fun n => decide (n ≤ K)) = p.1 :: (pts.map (·.1)).filter fun n => decide (n ≤ K) := List.filter_cons_of_pos (decide_eq_true h)
      rw [a1, a2, List.map_cons, a3, List.length_cons, List.take_succ_cons, List.drop_succ_cons, ← ih.1, ← ih.2]
      exact ⟨rfl, rfl⟩
    · have h1 : K < p.1 := by omega
      have h0 : (pts.map (·.1)).filter (fun n => decide (n ≤ K)) = [] := by
        rw [List.filter_eq_nil_iff]
        intro n hn
        have := hs.1 n hn
        simp only [decide_eq_true_eq]
        omega
      have a1 : ((p :: pts).filter fun q => decide (q.1 < K)) = pts.filter fun q => decide (q.1 < K) := List.filter_cons_of_neg (by simp; omega)
      have a2 : ((p :: pts).filter fun q => decide (K < q.1)) = p :: pts.filter fun q => decide (K < q.1) := List.filter_cons_of_pos (decide_eq_true h1)
      have a3 : ((p.1 :: pts.map (·.1)).filter fun n => decide (n ≤ K)) = (pts.map (·.1)).filter fun n => decide (n ≤ K) := List.filter_cons_of_neg (by simp; omega)
      rw [h0] at ih
      rw [a1, a2, List.map_cons, a3, h0, ih.1, ih.2]
      exact ⟨rfl, rfl⟩
theorem ar_eq {pts : List (Int × Str)} {ns : List Int} {nf : Int → Str} {K : Int} (e1 : pts.map (·.1) = ns) (e2 : ∀ p ∈ pts, nf p.1 = p.2) (hs : (pts.map (·.1)).Pairwise (· < ·)) (hne : ∀ q ∈ pts, q.1 ≠ K) :
    (ns.drop (posOf ns K) ++ ns.take (posOf ns K)).map nf = arL pts K := by
  obtain ⟨f1, f2⟩ := filt_sorted hs hne
  have em : ∀ l : List (Int × Str), (∀ p ∈ l, p ∈ pts) → (l.map (·.1)).map nf = l.map (·.2) := fun l hl => by
    rw [List.map_map]
    exact List.map_congr_left fun p hp => e2 p (hl p hp)
  have e3 : (ns.drop (posOf ns K) ++ ns.take (posOf ns K)).map nf = (pts.drop (posOf ns K) ++ pts.take (posOf ns K)).map (·.2) := by
    rw [← em (pts.drop (posOf ns K) ++ pts.take (posOf ns K)) (fun p hp => by
      rcases List.mem_append.mp hp with hp | hp
      · exact List.mem_of_mem_drop hp
      · exact List.mem_of_mem_take hp)]
    refine congrArg (List.map nf) ?_
    rw [List.map_append, List.map_drop, List.map_take, e1]
  rw [e3, arL, f1, f2, e1]
  unfold posOf
  have hl : pts.length = ns.length := by rw [← e1, List.length_map]
  split
  · rename_i h
    rw [h, ← hl, List.drop_length, List.take_length, List.drop_zero, List.take_zero]
    simp
  · rw [List.map_append]
/-- each once -/
noncomputable def dd : List Str → List Str → List Str
  | _, [] => []
  | all, n :: r => if n ∈ all then dd all r else n :: dd (all ++ [n]) r
theorem rgo_none : ∀ {ys all : List Str}, rgo false none all ys = ys
  | [], _ => rfl
  | y :: ys, all => by
    rw [rgo_take (fun h => Bool.false_ne_true h.1), if_neg (by simp), rgo_none]
theorem rgo_some : ∀ {ys all : List Str} {z : Nat}, all.length < z → rgo false (some (z : Int)) all ys = ys.take (z - all.length)
  | [], _, _, _ => by rw [rgo, List.take_nil]
  | y :: ys, all, z, h => by
    rw [rgo_take (fun h => Bool.false_ne_true h.1)]
    have h1 : z - all.length = (z - (all.length + 1)) + 1 := by omega
    rw [h1, List.take_succ_cons]
    by_cases e : z = all.length + 1
    · rw [if_pos (by simp; omega), e, Nat.sub_self, List.take_zero]
    · rw [if_neg (by simp; omega), rgo_some (by simp; omega)]
      simp
theorem rgo_dd : ∀ {ys all : List Str} {z : Nat}, all.length < z → rgo true (some (z : Int)) all ys = (dd all ys).take (z - all.length)
  | [], _, _, _ => by rw [rgo, dd, List.take_nil]
  | y :: ys, all, z, h => by
    by_cases hy : y ∈ all
    · rw [rgo_skip rfl hy, dd, if_pos hy, rgo_dd h]
    · rw [rgo_take (fun h => hy h.2), dd, if_neg hy]
      have h1 : z - all.length = (z - (all.length + 1)) + 1 := by omega
      rw [h1, List.take_succ_cons]
      by_cases e : z = all.length + 1
      · rw [if_pos (by simp; omega), e, Nat.sub_self, List.take_zero]
      · rw [if_neg (by simp; omega), rgo_dd (by simp; omega)]
        simp
theorem mem_dd : ∀ {ys all : List Str} {n : Str}, n ∈ dd all ys ↔ n ∈ ys ∧ n ∉ all
  | [], _, _ => by simp [dd]
  | y :: ys, all, n => by
    rw [dd]
    split
    · rename_i h
      rw [mem_dd, List.mem_cons]
      constructor
      · exact fun ⟨a, b⟩ => ⟨.inr a, b⟩
      · rintro ⟨rfl | a, b⟩
        · exact absurd h b
        · exact ⟨a, b⟩
    · rename_i h
      rw [List.mem_cons, mem_dd, List.mem_cons, List.mem_append, List.mem_singleton]
      constructor
      · rintro (rfl | ⟨a, b⟩)
        · exact ⟨.inl rfl, h⟩
        · exact ⟨.inr a, fun q => b (.inl q)⟩
      · rintro ⟨rfl | a, b⟩
        · exact .inl rfl
        · by_cases e : n = y
          · exact .inl e
          · exact .inr ⟨a, fun q => q.elim b e⟩
theorem dd_nd : ∀ {ys all : List Str}, (dd all ys).Nodup
  | [], _ => List.nodup_nil
  | y :: ys, all => by
    rw [dd]
    split
    · exact dd_nd
    · rw [List.nodup_cons]
      exact ⟨fun h => (mem_dd.mp h).2 (by simp), dd_nd⟩
/-- the loop of the law -/
theorem dd_snoc : ∀ {ys all : List Str} {n : Str}, dd all (ys ++ [n]) = if n ∈ all ∨ n ∈ dd all ys then dd all ys else dd all ys ++ [n]
  | [], all, n => by
    show (if n ∈ all then [] else [n]) = if n ∈ all ∨ n ∈ ([] : List Str) then [] else [] ++ [n]
    by_cases h : n ∈ all
    · rw [if_pos h, if_pos (.inl h)]
    · rw [if_neg h, if_neg (fun q => q.elim h (fun z => nomatch z))]; rfl
  | y :: ys, all, n => by
    rw [List.cons_append, dd, dd]
    by_cases hy : y ∈ all
    · rw [if_pos hy, if_pos hy, dd_snoc]
    · rw [if_neg hy, if_neg hy, dd_snoc]
      by_cases h : n ∈ all ++ [y] ∨ n ∈ dd (all ++ [y]) ys
      · rw [if_pos h, if_pos]
        rcases h with h | h
        · rcases List.mem_append.mp h with h | h
          · exact .inl h
          · rw [List.mem_singleton] at h; exact .inr (by rw [h]; exact .head _)
        · exact .inr (.tail _ h)
      · rw [if_neg h, if_neg]
        · rfl
        · rintro (q | q)
          · exact h (.inl (List.mem_append_left _ q))
          · rcases List.mem_cons.mp q with rfl | q
            · exact h (.inl (by simp))
            · exact h (.inr q)

end Mc

namespace Mc

theorem filt_take {α : Type} {l : List α} {p : α → Bool} {i : Nat} (h : i < l.length) : ((l.take (i + 1)).filter p) = (l.take i).filter p ++ (if p l[i] = true then [l[i]] else []) := by
  rw [List.take_add_one, List.getElem?_eq_getElem h, List.filter_append]
  congr 1
  show List.filter p [l[i]] = _
  rw [List.filter_cons, List.filter_nil]
theorem pr_map {pts : List (Int × Str)} : (pts.map fun p => ((vi p.1, vs p.2) : Value × Value)).map (fun d => [d.1, d.2]) = pts.map pairOf := by rw [List.map_map]; rfl
/-- key, around -/
theorem turnA (w : World) (C : Cx) (hB : Bs PP w (hK w.params) gl C) (fa L sl : Addr)
   (doc pm : Value)
   (F : Int) (m : Nat) (xs : List Int) (hx : xs.length ≤ 63) (bx ha c' nmA cfA P : Addr) (fd : FuncData) (q : Str) (r : Rg) (rows : List Rq) (numV manV oneV : Option Value) (size : Int) (naV trV arV onV kyV : Option Value) (pts : List (Int × Str)) (hpl : pts.length ≤ 1000) (ts : List Addr) (hts : ts.length = pts.length) (Z : List Item) (hP : (P, ListI (ts.map .ref)) ∈ Z) (hPt : ∀ p ∈ tupIts ts (pts.map pairOf), p ∈ Z)
   (A : Around) (s : Shared) (Q : Flow → Shared → Prop) (E : Value → Shared → Prop) (hA : Rm A 60 200)
   (H : S C ((L, NsI (frW (some (.ref sl)) (some (.ref bx)) (some (.ref nmA)) (some (.ref P)) numV manV oneV (some (vi size)) trV arV onV)) :: (clW L (some (.ref ha)) (some (.ref cfA)) naV (some (.ref r.hr)) kyV (some (vi F)) ++ ((cfA, DictI (sk PP w) (rqK rows) none) :: (bx, ListI (xs.map vi)) :: (nmA, ListI ((lets.take m).map vs)) :: (ha, FnI fd) :: (c', CodeI q) :: Z))) s)
   (hQ : ∀ (key : Int) (xs : List Int) (aA : Addr) s', 0 ≤ key → xs.length ≤ 63 → S C ((L, NsI (frW (some (.ref sl)) (some (.ref bx)) (some (.ref nmA)) (some (.ref P)) numV manV oneV (some (vi size)) trV (some (.ref aA)) onV)) :: (clW L (some (.ref ha)) (some (.ref cfA)) naV (some (.ref r.hr)) (some (vi key)) (some (vi F)) ++ ((cfA, DictI (sk PP w) (rqK rows) none) :: (bx, ListI (xs.map vi)) :: (nmA, ListI ((lets.take m).map vs)) :: (ha, FnI fd) :: (c', CodeI q) :: (aA, ListI ((arL pts (2 * key + 1)).map vs)) :: Z))) s' → wpAny (model PP w) A (execs ((forBody (lawB.drop 13)).drop 2) (lnv fa L doc pm (.ref 407))) Q E s') :
   wpAny (model PP w) A (execs ((forBody (lawB.drop 13)).drop 0) (lnv fa L doc pm (.ref 407))) Q E s := by
  have hA1 := hA
  refine (show (let env : Env := lenv fa L _ _ _ _ doc pm (.ref 407); wpAny (model PP w) A (execs (_ :: _) env) Q E s) from ?_)
  intro env
  simp only [List.cons_append, List.nil_append] at H
  repeat' walk1
  have hx3 : xs.tail.length ≤ 63 := by rw [List.length_tail]; omega
  have hk0 : 0 ≤ (xs.headD 0).fmod 102 := by rw [fmod_nn (by decide)]; omega
  generalize (xs.headD 0).fmod 102 = key at *
  generalize xs.tail = xs1 at *
  refine lc_evalG (cl := [("key", L + 5)]) rfl rfl (by decide) ?_
  iterate 2 walk1
  rename_i it1 hit1
  refine lc_goP (ts := ts) (ds := pts.map fun p => (vi p.1, vs p.2)) hA1.hd (by rw [List.length_map]; exact hts) (by decide +kernel) (fun i ys l' => ys = ((pts.take i).filter (fun q => decide (2 * key + 1 < q.1))).map (fun q => vs q.2) ∧ l' = ((L, NsI (frW (some (.ref sl)) (some (.ref bx)) (some (.ref nmA)) (some (.ref P)) numV manV oneV (some (vi size)) trV arV onV)) :: (clW L (some (.ref ha)) (some (.ref cfA)) naV (some (.ref r.hr)) (some (vi key)) (some (vi F)) ++ ((cfA, DictI (sk PP w) (rqK rows) none) :: (bx, ListI (xs1.map vi)) :: (nmA, ListI ((lets.take m).map vs)) :: (ha, FnI fd) :: (c', CodeI q) :: Z)))) ?_ hit1 (by decide) rfl rfl rfl (by rw [List.length_map]; omega) ⟨rfl, rfl⟩ H ?_ ?_
  · rintro i ys l' ⟨_, rfl⟩
    refine ⟨by walk_at "mb", fun p hp => ?_⟩
    rw [pr_map] at hp
    have h1 := hPt p hp
    walk_at "mb"
  · rintro i hi ys l' cf D s E' ⟨rfl, rfl⟩ hyl H
    have hi' : i < pts.length := by rw [List.length_map] at hi; exact hi
    have hst := filt_take (p := fun q => decide (2 * key + 1 < q.1)) hi'
    simp only [List.getElem_map] at H ⊢
    simp only [List.cons_append, List.nil_append] at H
    generalize pts[i] = pq at *
    repeat' walk1
    all_goals (unfold Hide)
    · refine ⟨_, ⟨?_, rfl⟩, S.tkTo H rfl rfl rfl⟩
      rw [hst, if_pos (decide_eq_true (by assumption)), List.map_append]; rfl
    · refine ⟨_, ⟨?_, rfl⟩, S.tkTo H rfl rfl rfl⟩
      rw [hst, if_neg (by rw [decide_eq_true_eq]; assumption), List.append_nil]
  rintro ys l' cf X D1 s ⟨rfl, rfl⟩ hyl hcf H
  refine post_none H hcf fun s H => ?_
  rw [List.length_map, List.take_length] at H
  refine lc_evalG (cl := [("key", L + 5)]) rfl rfl (by decide) ?_
  iterate 2 walk1
  rename_i it2 hit2
  refine lc_goP (ts := ts) (ds := pts.map fun p => (vi p.1, vs p.2)) hA1.hd (by rw [List.length_map]; exact hts) (by decide +kernel) (fun i ys l' => ys = ((pts.take i).filter (fun q => decide (q.1 < 2 * key + 1))).map (fun q => vs q.2) ∧ l' = (D1, ListI ((pts.filter (fun q => decide (2 * key + 1 < q.1))).map (fun q => vs q.2))) :: ((L, NsI (frW (some (.ref sl)) (some (.ref bx)) (some (.ref nmA)) (some (.ref P)) numV manV oneV (some (vi size)) trV arV onV)) :: (clW L (some (.ref ha)) (some (.ref cfA)) naV (some (.ref r.hr)) (some (vi key)) (some (vi F)) ++ ((cfA, DictI (sk PP w) (rqK rows) none) :: (bx, ListI (xs1.map vi)) :: (nmA, ListI ((lets.take m).map vs)) :: (ha, FnI fd) :: (c', CodeI q) :: Z)))) ?_ hit2 (by decide) rfl rfl rfl (by rw [List.length_map]; omega) ⟨rfl, rfl⟩ H ?_ ?_
  · rintro i ys l' ⟨_, rfl⟩
    refine ⟨by walk_at "mb", fun p hp => ?_⟩
    rw [pr_map] at hp
    have h1 := hPt p hp
    walk_at "mb"
  · rintro i hi ys l' cf D s E' ⟨rfl, rfl⟩ hyl H
    have hi' : i < pts.length := by rw [List.length_map] at hi; exact hi
    have hst := filt_take (p := fun q => decide (q.1 < 2 * key + 1)) hi'
    simp only [List.getElem_map] at H ⊢
    simp only [List.cons_append, List.nil_append] at H
    generalize pts[i] = pq at *
    repeat' walk1
    all_goals (unfold Hide)
    · refine ⟨_, ⟨?_, rfl⟩, S.tkTo H rfl rfl rfl⟩
      rw [hst, if_pos (decide_eq_true (by assumption)), List.map_append]; rfl
    · refine ⟨_, ⟨?_, rfl⟩, S.tkTo H rfl rfl rfl⟩
      rw [hst, if_neg (by rw [decide_eq_true_eq]; assumption), List.append_nil]
  rintro ys l' cf X D2 s ⟨rfl, rfl⟩ hyl hcf H
  refine post_none H hcf fun s H => ?_
  rw [List.length_map, List.take_length] at H
  have hl1 := List.length_filter_le (fun q : Int × Str => decide (2 * key + 1 < q.1)) pts
  have hl2 := List.length_filter_le (fun q : Int × Str => decide (q.1 < 2 * key + 1)) pts
  iterate 2 walk1
  have e : (pts.filter (fun q => decide (2 * key + 1 < q.1))).map (fun q => vs q.2) ++ (pts.filter (fun q => decide (q.1 < 2 * key + 1))).map (fun q => vs q.2) = ((arL pts (2 * key + 1)).map vs) := by
    unfold arL
    rw [List.map_append, List.map_map, List.map_map]; rfl
  rw [e] at H
  obtain ⟨aA, H⟩ : ∃ aA, S C ([(L, NsI (frW (some (.ref sl)) (some (.ref bx)) (some (.ref nmA)) (some (.ref P)) numV manV oneV (some (vi size)) trV (some (.ref aA)) onV)), (L + 6, _), (L + 5, CellI (some (vi key))), (L + 4, _), (L + 3, _), (L + 2, _), (L + 1, _), (cfA, _), (bx, ListI (xs1.map vi)), (nmA, _), (ha, _), (c', _), (aA, ListI ((arL pts (2 * key + 1)).map vs))] ++ Z) s := ⟨_, S.pick H (by walk_at "pick") (by walk_at "sub")⟩
  exact hQ key xs1 aA s hk0 hx3 H

end Mc

namespace Mc

theorem stl_map : ∀ ys : List Str, StL (ys.map vs) ys
  | [] => .nil
  | y :: ys => .cons (stl_map ys)
theorem dd_len (ys : List Str) : (dd [] ys).length ≤ ys.length := by
  have : ∀ (ys all : List Str), (dd all ys).length ≤ ys.length := by
    intro ys
    induction ys with
    | nil => intro all; exact Nat.zero_le _
    | cons y ys ih =>
      intro all
      rw [dd]
      split
      · exact Nat.le_succ_of_le (ih all)
      · rw [List.length_cons, List.length_cons]; exact Nat.succ_le_succ (ih _)
  exact this ys []
/-- once -/
theorem turnB (w : World) (C : Cx) (hB : Bs PP w (hK w.params) gl C) (fa L sl : Addr)
   (doc pm : Value)
   (F : Int) (m : Nat) (xs : List Int) (hx : xs.length ≤ 63) (bx ha c' nmA cfA P : Addr) (fd : FuncData) (q : Str) (r : Rg) (rows : List Rq) (numV manV oneV : Option Value) (size : Int) (naV trV arV onV kyV : Option Value) (key : Int) (aA : Addr) (ys : List Str) (hyl : ys.length ≤ 1000) (Z : List Item) (hZ : (aA, ListI (ys.map vs)) ∈ Z)
   (A : Around) (s : Shared) (Q : Flow → Shared → Prop) (E : Value → Shared → Prop) (hA : Rm A 60 200)
   (H : S C ((L, NsI (frW (some (.ref sl)) (some (.ref bx)) (some (.ref nmA)) (some (.ref P)) numV manV oneV (some (vi size)) trV (some (.ref aA)) onV)) :: (clW L (some (.ref ha)) (some (.ref cfA)) naV (some (.ref r.hr)) (some (vi key)) (some (vi F)) ++ ((cfA, DictI (sk PP w) (rqK rows) none) :: (bx, ListI (xs.map vi)) :: (nmA, ListI ((lets.take m).map vs)) :: (ha, FnI fd) :: (c', CodeI q) :: Z))) s)
   (hQ : ∀ (oA : Addr) (naV : Option Value) s', S C ((L, NsI (frW (some (.ref sl)) (some (.ref bx)) (some (.ref nmA)) (some (.ref P)) numV manV oneV (some (vi size)) trV (some (.ref aA)) (some (.ref oA)))) :: (clW L (some (.ref ha)) (some (.ref cfA)) naV (some (.ref r.hr)) (some (vi key)) (some (vi F)) ++ ((cfA, DictI (sk PP w) (rqK rows) none) :: (bx, ListI (xs.map vi)) :: (nmA, ListI ((lets.take m).map vs)) :: (ha, FnI fd) :: (c', CodeI q) :: (oA, ListI ((dd [] ys).map vs)) :: Z))) s' → wpAny (model PP w) A (execs ((forBody (lawB.drop 13)).drop 4) (lnv fa L doc pm (.ref 407))) Q E s') :
   wpAny (model PP w) A (execs ((forBody (lawB.drop 13)).drop 2) (lnv fa L doc pm (.ref 407))) Q E s := by
  have hA1 := hA
  refine (show (let env : Env := lenv fa L _ _ _ _ doc pm (.ref 407); wpAny (model PP w) A (execs (_ :: _) env) Q E s) from ?_)
  intro env
  simp only [List.cons_append, List.nil_append] at H
  repeat' walk1
  rename_i oA it hit
  have H : S C ((it, ListIt aA 0) :: ((L, NsI (frW (some (.ref sl)) (some (.ref bx)) (some (.ref nmA)) (some (.ref P)) numV manV oneV (some (vi size)) trV (some (.ref aA)) (some (.ref oA)))) :: (clW L (some (.ref ha)) (some (.ref cfA)) naV (some (.ref r.hr)) (some (vi key)) (some (vi F)) ++ ((cfA, DictI (sk PP w) (rqK rows) none) :: (bx, ListI (xs.map vi)) :: (nmA, ListI ((lets.take m).map vs)) :: (ha, FnI fd) :: (c', CodeI q) :: (oA, ListI ((dd [] (ys.take 0)).map vs)) :: Z)))) s := S.pick (ps := [(it, _), (L, _), (L + 6, _), (L + 5, _), (L + 4, _), (L + 3, _), (L + 2, _), (L + 1, _), (cfA, _), (bx, _), (nmA, _), (ha, _), (c', _), (oA, _)]) H (by walk_at "pick") (by walk_at "sub")
  refine for_nx1 (nx_list aA (ys.map vs) hit) hA1.hd (fun i its => ∃ naV, its = ((L, NsI (frW (some (.ref sl)) (some (.ref bx)) (some (.ref nmA)) (some (.ref P)) numV manV oneV (some (vi size)) trV (some (.ref aA)) (some (.ref oA)))) :: (clW L (some (.ref ha)) (some (.ref cfA)) naV (some (.ref r.hr)) (some (vi key)) (some (vi F)) ++ ((cfA, DictI (sk PP w) (rqK rows) none) :: (bx, ListI (xs.map vi)) :: (nmA, ListI ((lets.take m).map vs)) :: (ha, FnI fd) :: (c', CodeI q) :: (oA, ListI ((dd [] (ys.take i)).map vs)) :: Z)))) ?_ ⟨naV, rfl⟩ H ?_ ?_
  · rintro i l ⟨naV, rfl⟩
    walk_at "mb"
  · rintro i v l s E' hi ⟨X', hx', he⟩ ⟨naV, rfl⟩ H QI hQI
    have hi' : i < ys.length := by simpa using hi
    rw [List.getElem?_map, List.getElem?_eq_getElem hi'] at hx'
    cases hx'
    obtain ⟨t, rfl⟩ := str_of_er he
    have hstep : ys.take (i + 1) = ys.take i ++ [ys[i]] := by rw [List.take_add_one, List.getElem?_eq_getElem hi']; rfl
    have hdl := dd_len (ys.take i)
    have htl : (ys.take i).length ≤ ys.length := by rw [List.length_take]; omega
    have hdd := dd_snoc (ys := ys.take i) (all := []) (n := ys[i])
    rw [← hstep] at hdd
    generalize ys[i] = n at *
    simp only [List.cons_append, List.nil_append] at H
    iterate 6 walk1
    by_cases hn : n ∈ dd [] (ys.take i)
    · refine r_notIn_strs (b := true) (by walk_at "st") (by walk_at "mb") (stl_map _) (decide_eq_true hn) ?_
      repeat' walk1
      refine hQI _ _ (TurnEnd.next ⟨some (vs n), ?_⟩ (S.tkTo H rfl rfl rfl))
      rw [hdd, if_pos (.inr hn)]; rfl
    · refine r_notIn_strs (b := false) (by walk_at "st") (by walk_at "mb") (stl_map _) (decide_eq_false hn) ?_
      repeat' walk1
      refine hQI _ _ (TurnEnd.next ⟨some (vs n), ?_⟩ (S.tkTo H rfl rfl rfl))
      rw [hdd, if_neg (fun q => q.elim (fun z => nomatch z) hn), List.map_append]; rfl
  · rintro l s E' ⟨naV, rfl⟩ H
    walk1
    rw [List.length_map, List.take_length] at H
    exact hQ oA naV s H

end Mc

namespace Mc
section
variable {w : World} {C : Cx} {ha : Addr} {hIts : List Item} {F : Int} {st : RS} {rows : List Rq}
/-- the property conf -/
theorem p_conf (hB : Bs PP w (hK w.params) gl C) {A : Around} {its : List Item} {s : Shared} {Q E : Value → Shared → Prop} {r : Rg} {st : RS} {expr : Bool} (hA : Rm A 1 10) (H : S C its s) (hr : ∀ p ∈ rgIts w ha r st, p ∈ its)
   (hQ : ∀ s', S C its s' → Q (.ref r.nodes) s') : wpAny (model PP w) A (getAttr (.ref r.hr) "conf" expr) Q E s := by
  have h1 : (r.hr, InstI 392 r.hrd) ∈ its := hr _ (by first | exact List.mem_of_getElem? (i := 0) rfl | exact List.mem_of_getElem? (i := 1) rfl | exact List.mem_of_getElem? (i := 2) rfl | exact List.mem_of_getElem? (i := 3) rfl | exact List.mem_of_getElem? (i := 4) rfl | exact List.mem_of_getElem? (i := 5) rfl | exact List.mem_of_getElem? (i := 6) rfl | exact List.mem_of_getElem? (i := 7) rfl | exact List.mem_of_getElem? (i := 8) rfl)
  have h2 : (r.hrd, DictI (sk PP w) (hrA r.rt r.vn .none) none) ∈ its := hr _ (by first | exact List.mem_of_getElem? (i := 0) rfl | exact List.mem_of_getElem? (i := 1) rfl | exact List.mem_of_getElem? (i := 2) rfl | exact List.mem_of_getElem? (i := 3) rfl | exact List.mem_of_getElem? (i := 4) rfl | exact List.mem_of_getElem? (i := 5) rfl | exact List.mem_of_getElem? (i := 6) rfl | exact List.mem_of_getElem? (i := 7) rfl | exact List.mem_of_getElem? (i := 8) rfl)
  have h3 : (r.rt, InstI 118 r.rtd) ∈ its := hr _ (by first | exact List.mem_of_getElem? (i := 0) rfl | exact List.mem_of_getElem? (i := 1) rfl | exact List.mem_of_getElem? (i := 2) rfl | exact List.mem_of_getElem? (i := 3) rfl | exact List.mem_of_getElem? (i := 4) rfl | exact List.mem_of_getElem? (i := 5) rfl | exact List.mem_of_getElem? (i := 6) rfl | exact List.mem_of_getElem? (i := 7) rfl | exact List.mem_of_getElem? (i := 8) rfl)
  have h4 : (r.rtd, DictI (sk PP w) (rtA r.dist st.ka r.npts r.nodes r.rg (.ref ha)) none) ∈ its := hr _ (by first | exact List.mem_of_getElem? (i := 0) rfl | exact List.mem_of_getElem? (i := 1) rfl | exact List.mem_of_getElem? (i := 2) rfl | exact List.mem_of_getElem? (i := 3) rfl | exact List.mem_of_getElem? (i := 4) rfl | exact List.mem_of_getElem? (i := 5) rfl | exact List.mem_of_getElem? (i := 6) rfl | exact List.mem_of_getElem? (i := 7) rfl | exact List.mem_of_getElem? (i := 8) rfl)
  refine rc_prop H hB h1 (c390 w) h2 (p := 325) (fget := 324) (by walk_at "mb") fun s tk H => ?_
  have hA' : Rm A.in1 (0 + 1) (6 + 3) := Rm.in1 hA
  refine call_fnL H hB (hB.k H 324 _ rfl) rfl (codeRec_of (hB.k H) (by kernel_rfl)) rfl hA' (BindsTo.of_eq rfl) (by kernel_rfl) (by kernel_rfl) (loc := [("self", some (.ref r.hr))]) (by kernel_rfl) rfl ?_
  intro L s A1 E1 hA1 H env
  repeat' walk1
  exact handed_on rfl (hQ _ H.tail)
/-- what range gives -/
noncomputable def outF (u : Bool) (sz : Option Int) (ar : List Str) : List Str := match u, sz with
  | true, none => dd [] ar
  | true, some z => (dd [] ar).take z.toNat
  | false, none => ar
  | false, some z => ar.take z.toNat
theorem out_eq {u : Bool} {sz : Option Int} {ar : List Str} {N : Nat} (hN : 0 < N) (hdd : (dd [] ar).length ≤ N) (hsz : ∀ z, sz = some z → 1 ≤ z) : rgo u (szF u sz N) [] ar = outF u sz ar := by
  cases sz with
  | none =>
    cases u with
    | true => rw [show szF true none N = some (N : Int) from rfl, rgo_dd (by simpa using hN)]; exact List.take_of_length_le (by simpa using hdd)
    | false => exact rgo_none
  | some z =>
    have hz := hsz z rfl
    obtain ⟨n, rfl⟩ : ∃ n : Nat, z = (n : Int) := ⟨z.toNat, by omega⟩
    cases u with
    | true => rw [show szF true (some (n : Int)) N = some (n : Int) from rfl, rgo_dd (by simp; omega)]; rfl
    | false => rw [show szF false (some (n : Int)) N = some (n : Int) from rfl, rgo_some (by simp; omega)]; rfl
noncomputable abbrev ND (w : World) (ha : Addr) (hIts : List Item) (r : Rg) (st : RS) : List Item := hIts ++ rgN w r.hr r.hrd r.rt r.rtd r.dist st.ka r.npts r.nodes r.rg ha r.vn st.ns st.m.rl st.nl
theorem nd_in {w : World} {r : Rg} {its : List Item} (hr : ∀ p ∈ rgIts w ha r st, p ∈ its) (hi : ∀ p ∈ hIts, p ∈ its) : ∀ p ∈ ND w ha hIts r st, p ∈ its := fun p hp => by
  rcases List.mem_append.mp hp with hp | hp
  · exact hi p hp
  · refine hr p ?_
    simp only [rgN, List.mem_cons, List.not_mem_nil, or_false] at hp
    rcases hp with rfl | rfl | rfl | rfl | rfl | rfl | rfl <;> first | exact List.mem_of_getElem? (i := 0) rfl | exact List.mem_of_getElem? (i := 1) rfl | exact List.mem_of_getElem? (i := 2) rfl | exact List.mem_of_getElem? (i := 3) rfl | exact List.mem_of_getElem? (i := 4) rfl | exact List.mem_of_getElem? (i := 5) rfl | exact List.mem_of_getElem? (i := 6) rfl | exact List.mem_of_getElem? (i := 7) rfl | exact List.mem_of_getElem? (i := 8) rfl
/-- what the law knows of its points and its ring -/
structure LW (F : Int) (st : RS) (rows : List Rq) (pts : List (Int × Str)) : Prop where
  l : LQ F st (rqP rows) rows
  p : PtsOk F rows pts
  nd : (rows.map (·.name)).Nodup
  ok : ∀ r ∈ rows, RqOk r
  ne : rows ≠ []
theorem LW.odd {pts : List (Int × Str)} (h : LW F st rows pts) (key : Int) : ∀ q ∈ pts, q.1 ≠ 2 * key + 1 := fun q hq e => by
  obtain ⟨c, k, h2, h3, h4⟩ := mem_allP.mp (h.p.pm.mem_iff.mp (show (q.1, q.2) ∈ pts from hq))
  rw [h4] at e
  unfold choH at e
  omega
theorem LW.arr {pts : List (Int × Str)} (h : LW F st rows pts) (nd : (st.m.rl.map (·.1)).Nodup) (key : Int) : (st.ns.drop (posOf st.ns (2 * key + 1)) ++ st.ns.take (posOf st.ns (2 * key + 1))).map (nmF st.m.rl) = arL pts (2 * key + 1) :=
  ar_eq (h.l.pts nd h.p).1 (h.l.pts nd h.p).2 h.p.so (h.odd key)
theorem LW.ar_mem {pts : List (Int × Str)} (h : LW F st rows pts) (key : Int) (n : Str) : n ∈ arL pts (2 * key + 1) ↔ ∃ r ∈ rows, r.name = n := by
  have hp : ∀ q : Int × Str, q ∈ pts ↔ q ∈ allP F rows := fun q => h.p.pm.mem_iff
  constructor
  · intro hn
    have : ∃ q ∈ pts, q.2 = n := by
      rcases List.mem_append.mp hn with hn | hn
      · obtain ⟨q, hq, e⟩ := List.mem_map.mp hn
        exact ⟨q, (List.mem_filter.mp hq).1, e⟩
      · obtain ⟨q, hq, e⟩ := List.mem_map.mp hn
        exact ⟨q, (List.mem_filter.mp hq).1, e⟩
    obtain ⟨q, hq, rfl⟩ := this
    obtain ⟨c, k, ⟨r, hr, h1, _⟩, _, _⟩ := mem_allP.mp ((hp (q.1, q.2)).mp hq)
    exact ⟨r, hr, h1⟩
  · rintro ⟨r, hr, rfl⟩
    have hc := (h.ok r hr).cnt
    have hq := (hp (choH F (keyN r.name 0), r.name)).mpr (mem_allP.mpr ⟨r.cnt, 0, ⟨r, hr, rfl, rfl⟩, by omega, rfl⟩)
    have hne := h.odd key _ hq
    dsimp only at hne
    unfold arL
    rw [List.mem_append]
    by_cases hlt : 2 * key + 1 < choH F (keyN r.name 0)
    · exact .inl (List.mem_map.mpr ⟨_, List.mem_filter.mpr ⟨hq, decide_eq_true hlt⟩, rfl⟩)
    · exact .inr (List.mem_map.mpr ⟨_, List.mem_filter.mpr ⟨hq, decide_eq_true (by dsimp only; omega)⟩, rfl⟩)
theorem LW.nl_len {pts : List (Int × Str)} (h : LW F st rows pts) : st.nl.length ≤ 6 ∧ rows.length ≤ st.nl.length ∧ 0 < st.nl.length := by
  have h1 := h.l.lr.nl_len
  have h2 : rows.length ≤ st.nl.length := by
    have := nd_len (m := st.nl.map (·.1)) h.nd fun n hn => by
      obtain ⟨r, hr, rfl⟩ := List.mem_map.mp hn
      exact (h.l.lr.ring.nls r.name).mpr ⟨r.cnt, r, hr, rfl, rfl⟩
    rw [List.length_map, List.length_map] at this
    exact this
  have h3 : rows.length ≠ 0 := fun e => h.ne (List.length_eq_zero_iff.mp e)
  exact ⟨h1, h2, by omega⟩
theorem LW.dd_len {pts : List (Int × Str)} (h : LW F st rows pts) (key : Int) : (dd [] (arL pts (2 * key + 1))).length ≤ rows.length := by
  have := nd_len (m := rows.map (·.name)) (dd_nd (ys := arL pts (2 * key + 1)) (all := [])) fun n hn => by
    obtain ⟨r, hr, e⟩ := (h.ar_mem key n).mp (mem_dd.mp hn).1
    exact List.mem_map.mpr ⟨r, hr, e⟩
  rw [List.length_map] at this
  exact this
/-- ring.range(key ..) -/
theorem law_range (hB : Bs PP w (hK w.params) gl C) {pts : List (Int × Str)} (h : LW F st rows pts) (hk : ∀ G, HKey w (C.wg G) ha hIts (fun k => 2 * k + 1)) (hh : ∀ G, HOk w (C.wg G) ha hIts (choH F) choDom) {A : Around} {G : Array GenState} {its : List Item} {s : Shared} {Q E : Value → Shared → Prop} {r : Rg} {key : Int} {t : Tok} {vals : List Value} {vz : Value} {sz : Option Int} (hvz : er vz = szV sz) (hsz : ∀ z, sz = some z → 1 ≤ z) {u : Bool} (hargs : RgArgs r.hr (.int key t) vals [] vz u)
    (hA : Rm A 8 80) (H : S (C.wg G) its s) (hr : ∀ p ∈ rgIts w ha r st, p ∈ its)
    (hQ : ∀ D own G' s', GRel G.size G G' → GSt PP w C D G.size 10 80 (ND w ha hIts r st) ((outF u sz (arL pts (2 * key + 1))).map fun n => .ref (adF st.nl n)) G' own → S (C.wg G') (own ++ its) s' → Q (.ref D) s') :
    wpAny (model PP w) A (call (.ref 310) vals) Q E s := by
  have nd := (rg_nd H hr).1
  have hz := h.l.lr.rl_len nd
  have ok := h.l.lr.ring.ok
  have hl : st.ns.length = st.m.rl.length := by rw [ok.pm.length_eq, List.length_map]
  obtain ⟨n1, n2, n3⟩ := h.nl_len
  refine range_gen w C hB r.hr r.hrd r.rt r.rtd r.dist st.ka r.npts r.nodes r.rg ha r.vn hIts (choH F) choDom hh _ hk st.ns ok.so (by omega) st.m.rl st.nl (by omega) (nmF st.m.rl) (adF st.nl) (fun x hx => ⟨(h.l.nm x hx).1, (h.l.nm x hx).2.1⟩) A G its s Q E vals [] key t vz sz hvz hsz u hargs hA.room H fun D own G' s' q1 q2 q3 => ?_
  rw [h.arr nd key, out_eq n3 (Nat.le_trans (h.dd_len key) n2) hsz] at q2
  exact hQ D own G' s' q1 q2 q3
noncomputable abbrev ND2 (w : World) (ha : Addr) (hIts : List Item) (r : Rg) (st : RS) : List Item := ND w ha hIts r st ++ nlIts w st.nl
theorem nd2_in {w : World} {r : Rg} {its : List Item} (hr : ∀ p ∈ rgIts w ha r st, p ∈ its) (hi : ∀ p ∈ hIts, p ∈ its) : ∀ p ∈ ND2 w ha hIts r st, p ∈ its := fun p hp => by
  rcases List.mem_append.mp hp with hp | hp
  · exact nd_in hr hi p hp
  · refine hr p ?_
    unfold rgIts
    repeat (first | exact List.mem_append_right _ hp | refine List.mem_cons_of_mem _ ?_)
theorem LW.rl_ne {pts : List (Int × Str)} (h : LW F st rows pts) : st.m.rl.isEmpty = false := by
  obtain ⟨r, hr⟩ := List.exists_mem_of_ne_nil _ h.ne
  have hc := (h.ok r hr).cnt
  have := (h.l.lr.ring.mr.pt (choH F (keyN r.name 0)) (vs r.name)).mpr ⟨r.name, r.cnt, 0, ⟨r, hr, rfl, rfl⟩, by omega, rfl, rfl⟩
  cases e : st.m.rl with
  | nil => rw [e] at this; cases this
  | cons _ _ => rfl
/-- ring.iterate_nodes(key ..) -/
theorem law_iter (hB : Bs PP w (hK w.params) gl C) {pts : List (Int × Str)} (h : LW F st rows pts) (hk : ∀ G, HKey w (C.wg G) ha hIts (fun k => 2 * k + 1)) (hh : ∀ G, HOk w (C.wg G) ha hIts (choH F) choDom) {A : Around} {G : Array GenState} {its : List Item} {s : Shared} {Q E : Value → Shared → Prop} {r : Rg} {key : Int} {t : Tok} {vals : List Value} {u : Bool} (hargs : ItArgs r.hr (.int key t) vals u)
    (hA : Rm A 8 80) (H : S (C.wg G) its s) (hr : ∀ p ∈ rgIts w ha r st, p ∈ its)
    (hQ : ∀ D own G' s', GRel G.size G G' → GSt PP w C D G.size 14 100 (ND2 w ha hIts r st) ((outF u none (arL pts (2 * key + 1))).map vs) G' own → S (C.wg G') (own ++ its) s' → Q (.ref D) s') :
    wpAny (model PP w) A (call (.ref 302) vals) Q E s := by
  have nd := (rg_nd H hr).1
  have hz := h.l.lr.rl_len nd
  have ok := h.l.lr.ring.ok
  have hl : st.ns.length = st.m.rl.length := by rw [ok.pm.length_eq, List.length_map]
  obtain ⟨n1, n2, n3⟩ := h.nl_len
  refine iter_gen w C hB r.hr r.hrd r.rt r.rtd r.dist st.ka r.npts r.nodes r.rg ha r.vn hIts (choH F) choDom hh _ hk st.ns ok.so (by omega) st.m.rl (by omega) st.nl (by omega) (nmF st.m.rl) (adF st.nl) (fun x hx => ⟨(h.l.nm x hx).1, (h.l.nm x hx).2.1⟩) (ND2 w ha hIts r st) (fun p hp => List.mem_append_left _ hp) (fun x hx => ?_) A G its s Q E vals key t u hargs hA.room H fun D own G' s' q1 q2 q3 => ?_
  · obtain ⟨q, hq, e⟩ := (h.l.nm x hx).2.2
    have := (h.l.ad (w := w) h.nd hq).2
    rw [e] at this
    exact ⟨_, List.mem_append_right _ this, by rw [← e]; exact cf_nn _⟩
  · rw [h.rl_ne, if_neg Bool.false_ne_true, h.arr nd key, out_eq (sz := none) n3 (Nat.le_trans (h.dd_len key) n2) (fun z e => nomatch e)] at q2
    exact hQ D own G' s' q1 q2 q3
end

end Mc

namespace Mc

theorem arL_len (pts : List (Int × Str)) (K : Int) : (arL pts K).length ≤ 2 * pts.length := by
  unfold arL
  rw [List.length_append, List.length_map, List.length_map]
  have h1 := List.length_filter_le (fun q : Int × Str => decide (K < q.1)) pts
  have h2 := List.length_filter_le (fun q : Int × Str => decide (q.1 < K)) pts
  omega
/-- range, each once -/
theorem turnC (w : World) (C : Cx) (hB0 : Bs PP w (hK w.params) gl C) (fa L sl : Addr)
   (doc pm : Value)
   (F : Int) (m : Nat) (xs : List Int) (bx ha c' nmA cfA P : Addr) (fd : FuncData) (q : Str) (hq : q = fd.qualname) (r : Rg) (st : RS) (rows : List Rq) (pts : List (Int × Str)) (hW : LW F st rows pts) (hpl : pts.length ≤ 60) (numV manV oneV : Option Value) (size : Int) (hsz : 1 ≤ size ∧ size ≤ 7) (naV trV : Option Value) (key : Int) (aA oA : Addr) (Z : List Item) (hZr : ∀ p ∈ rgIts w ha r st, p ∈ Z) (hZa : (aA, ListI ((arL pts (2 * key + 1)).map vs)) ∈ Z) (hZo : (oA, ListI ((dd [] (arL pts (2 * key + 1))).map vs)) ∈ Z) (hk : ∀ G, HKey w (C.wg G) ha (choIts ha (L + 6) c' F fd) (fun k => 2 * k + 1)) (hh : ∀ G, HOk w (C.wg G) ha (choIts ha (L + 6) c' F fd) (choH F) choDom)
   (G : Array GenState) (hG : BareG G)
   (A : Around) (s : Shared) (Q : Flow → Shared → Prop) (E : Value → Shared → Prop) (hA : Rm A 60 200)
   (H : S (C.wg G) ((L, NsI (frW (some (.ref sl)) (some (.ref bx)) (some (.ref nmA)) (some (.ref P)) numV manV oneV (some (vi size)) trV (some (.ref aA)) (some (.ref oA)))) :: (clW L (some (.ref ha)) (some (.ref cfA)) naV (some (.ref r.hr)) (some (vi key)) (some (vi F)) ++ ((cfA, DictI (sk PP w) (rqK rows) none) :: (bx, ListI (xs.map vi)) :: (nmA, ListI ((lets.take m).map vs)) :: (ha, FnI fd) :: (c', CodeI q) :: Z))) s)
   (hQ : ∀ G s', BareG G → S (C.wg G) ((L, NsI (frW (some (.ref sl)) (some (.ref bx)) (some (.ref nmA)) (some (.ref P)) numV manV oneV (some (vi size)) trV (some (.ref aA)) (some (.ref oA)))) :: (clW L (some (.ref ha)) (some (.ref cfA)) naV (some (.ref r.hr)) (some (vi key)) (some (vi F)) ++ ((cfA, DictI (sk PP w) (rqK rows) none) :: (bx, ListI (xs.map vi)) :: (nmA, ListI ((lets.take m).map vs)) :: (ha, FnI fd) :: (c', CodeI q) :: Z))) s' → wpAny (model PP w) A (execs ((forBody (lawB.drop 13)).drop 5) (lnv fa L doc pm (.ref 407))) Q E s') :
   wpAny (model PP w) A (execs ((forBody (lawB.drop 13)).drop 4) (lnv fa L doc pm (.ref 407))) Q E s := by
  have hB := hB0.wg G
  obtain ⟨zn, rfl⟩ : ∃ zn : Nat, size = (zn : Int) := ⟨size.toNat, by omega⟩
  have hA1 := hA
  refine (show (let env : Env := lenv fa L _ _ _ _ doc pm (.ref 407); wpAny (model PP w) A (execs (_ :: _) env) Q E s) from ?_)
  intro env
  obtain ⟨Y, hY⟩ : ∃ Y : List Item, Y = ((L, NsI (frW (some (.ref sl)) (some (.ref bx)) (some (.ref nmA)) (some (.ref P)) numV manV oneV (some (vi zn)) trV (some (.ref aA)) (some (.ref oA)))) :: (clW L (some (.ref ha)) (some (.ref cfA)) naV (some (.ref r.hr)) (some (vi key)) (some (vi F)) ++ ((cfA, DictI (sk PP w) (rqK rows) none) :: (bx, ListI (xs.map vi)) :: (nmA, ListI ((lets.take m).map vs)) :: (ha, FnI fd) :: (c', CodeI q) :: Z))) := ⟨_, rfl⟩
  have y0 : (L, NsI (frW (some (.ref sl)) (some (.ref bx)) (some (.ref nmA)) (some (.ref P)) numV manV oneV (some (vi zn)) trV (some (.ref aA)) (some (.ref oA)))) ∈ Y := by rw [hY]; walk_at "mb"
  have y1 : (L + 4, CellI (some (.ref r.hr))) ∈ Y := by rw [hY]; walk_at "mb"
  have y2 : (L + 5, CellI (some (vi key))) ∈ Y := by rw [hY]; walk_at "mb"
  have y3 : (L + 2, CellI (some (.ref cfA))) ∈ Y := by rw [hY]; walk_at "mb"
  have y4 : (cfA, DictI (sk PP w) (rqK rows) none) ∈ Y := by rw [hY]; walk_at "mb"
  have y5 : (nmA, ListI ((lets.take m).map vs)) ∈ Y := by rw [hY]; walk_at "mb"
  have y6 : (ha, FnI fd) ∈ Y := by rw [hY]; walk_at "mb"
  have hZY : ∀ p ∈ Z, p ∈ Y := fun p hp => by rw [hY]; exact List.mem_cons_of_mem _ (List.mem_append_right _ (List.mem_cons_of_mem _ (List.mem_cons_of_mem _ (List.mem_cons_of_mem _ (List.mem_cons_of_mem _ (List.mem_cons_of_mem _ hp))))))
  have hci : ∀ p ∈ choIts ha (L + 6) c' F fd, p ∈ Y := fun p hp => by
    rw [hY]
    rcases List.mem_cons.mp hp with rfl | hp
    · walk_at "mb"
    rcases List.mem_cons.mp hp with rfl | hp
    · rw [← hq]; walk_at "mb"
    rw [List.mem_singleton] at hp; subst hp
    walk_at "mb"
  have hri : ∀ p ∈ rgIts w ha r st, p ∈ Y := fun p hp => hZY _ (hZr p hp)
  rw [← hY] at H
  replace hQ : ∀ G s', BareG G → S (C.wg G) Y s' → _ := fun G s' a b => hQ G s' a (by rw [hY] at b; exact b)
  clear hY
  have hZr := hri
  have hZa := hZY _ hZa
  have hZo := hZY _ hZo
  have hno : (r.nodes, DictI (sk PP w) (nlK st.nl) none) ∈ Y := hri _ (by first | exact List.mem_of_getElem? (i := 0) rfl | exact List.mem_of_getElem? (i := 1) rfl | exact List.mem_of_getElem? (i := 2) rfl | exact List.mem_of_getElem? (i := 3) rfl | exact List.mem_of_getElem? (i := 4) rfl | exact List.mem_of_getElem? (i := 5) rfl | exact List.mem_of_getElem? (i := 6) rfl | exact List.mem_of_getElem? (i := 7) rfl | exact List.mem_of_getElem? (i := 8) rfl)
  have hva : ∀ n ∈ arL pts (2 * key + 1), valueAt (nlK st.nl) n = some (.ref (adF st.nl n)) := fun n hn => by
    obtain ⟨r, hr, e⟩ := (hW.ar_mem key n).mp hn
    rw [← e]
    exact (hW.l.ad (w := w) hW.nd hr).1
  have hal := arL_len pts (2 * key + 1)
  have hdl := dd_len (arL pts (2 * key + 1))
  repeat' walk1
  refine law_range hB0 hW hk hh (sz := none) (u := true) rfl (fun z e => nomatch e) .one (hA1.le (by decide) (by decide)) (S.tkTo H rfl rfl rfl) hri fun Dg1 own1 G1 s hr1 hst H => ?_
  repeat' walk1
  refine r_list_gen hB0 (hA1.le (by decide) (by decide)) (nd_in (hIts := choIts ha (L + 6) c' F fd) (fun p hp => ?_) (fun p hp => ?_)) (by rw [List.length_map]; show (dd [] _).length ≤ _; omega) hst H fun D1 G1b s hr1b H => ?_
  · have h1 := hri p hp
    repeat (first | exact h1 | refine List.mem_cons_of_mem _ ?_)
  · have h1 := hci p hp
    repeat (first | exact h1 | refine List.mem_cons_of_mem _ ?_)
  simp only [outF, Int.toNat_natCast] at H
  have hB := hB0.wg G1b
  have hG1 : BareG G1b := hr1b.2.2 (hr1.2.2 hG)
  have hlz1 : (dd [] (arL pts (2 * key + 1))).length ≤ 1000 := by omega
  have hvz1 : ∀ n ∈ dd [] (arL pts (2 * key + 1)), valueAt (nlK st.nl) n = some (.ref (adF st.nl n)) := fun n hn => hva n (mem_dd.mp hn).1
  refine lc_eval (cl := [("ring", L + 4)]) rfl rfl (by decide) ?_
  repeat' walk1
  rename_i it1 hit1
  refine lc_go1 (nx_list oA ((dd [] (arL pts (2 * key + 1))).map vs) hit1) hA1.hd (fun i ys l => ys = ((dd [] (arL pts (2 * key + 1))).take i).map (fun n => (.ref (adF st.nl n) : Value)) ∧ l = _) ?_ (by decide) rfl rfl (by rw [List.length_map]; have := hlz1; omega) (fun Q' E' its' s' H' h' => self_list H' h') ⟨rfl, rfl⟩ H ?_ ?_
  · rintro i ys l p q ⟨_, rfl⟩
    walk_at "mb"
  · rintro i v ys l cf D s E' hi ⟨X', hx', he⟩ ⟨rfl, rfl⟩ hyl H QI hQI
    have hi' : i < (dd [] (arL pts (2 * key + 1))).length := by rw [List.length_map] at hi; exact hi
    rw [List.getElem?_map, List.getElem?_eq_getElem hi'] at hx'
    cases hx'
    obtain ⟨t, rfl⟩ := str_of_er he
    have hstep : (dd [] (arL pts (2 * key + 1))).take (i + 1) = (dd [] (arL pts (2 * key + 1))).take i ++ [(dd [] (arL pts (2 * key + 1)))[i]] := by rw [List.take_add_one, List.getElem?_eq_getElem hi']; rfl
    have hv := hvz1 _ (List.getElem_mem hi')
    generalize (dd [] (arL pts (2 * key + 1)))[i] = n at *
    repeat' walk1
    refine hQI _ _ _ ⟨?_, rfl⟩ (S.tkTo H rfl rfl rfl)
    rw [hstep, List.map_append]; rfl
  rintro ys l cf X E1 s ⟨rfl, rfl⟩ hyl hcf H
  refine post_none H hcf fun s H => ?_
  rw [List.length_map, List.take_length] at H
  refine r_ne_same (S.tkTo H rfl rfl rfl) (by walk_at "mb") (by walk_at "mb") (fun v hv => by obtain ⟨n, _, rfl⟩ := List.mem_map.mp hv; exact .ref _) hA1.units ?_
  have H := H.tail.tail
  repeat' walk1
  refine law_range hB0 hW hk hh (sz := (some (zn : Int))) (u := true) rfl (fun z e => by cases e; omega) (.two _) (hA1.le (by decide) (by decide)) (S.tkTo H rfl rfl rfl) hri fun Dg2 own2 G2 s hr2 hst H => ?_
  repeat' walk1
  refine r_list_gen hB0 (hA1.le (by decide) (by decide)) (nd_in (hIts := choIts ha (L + 6) c' F fd) (fun p hp => ?_) (fun p hp => ?_)) (by rw [List.length_map]; simp only [outF]; rw [List.length_take]; omega) hst H fun D2 G2b s hr2b H => ?_
  · have h1 := hri p hp
    repeat (first | exact h1 | refine List.mem_cons_of_mem _ ?_)
  · have h1 := hci p hp
    repeat (first | exact h1 | refine List.mem_cons_of_mem _ ?_)
  simp only [outF, Int.toNat_natCast] at H
  have hB := hB0.wg G2b
  have hG2 : BareG G2b := hr2b.2.2 (hr2.2.2 hG1)
  have hlz2 : ((dd [] (arL pts (2 * key + 1))).take zn).length ≤ 1000 := by rw [List.length_take]; omega
  have hvz2 : ∀ n ∈ (dd [] (arL pts (2 * key + 1))).take zn, valueAt (nlK st.nl) n = some (.ref (adF st.nl n)) := fun n hn => hva n (mem_dd.mp (List.mem_of_mem_take hn)).1
  refine lc_eval (cl := [("ring", L + 4)]) rfl rfl (by decide) ?_
  repeat' walk1
  rename_i sA it2 hit2
  rw [← List.map_take] at H
  refine lc_go1 (nx_list sA (((dd [] (arL pts (2 * key + 1))).take zn).map vs) hit2) hA1.hd (fun i ys l => ys = (((dd [] (arL pts (2 * key + 1))).take zn).take i).map (fun n => (.ref (adF st.nl n) : Value)) ∧ l = _) ?_ (by decide) rfl rfl (by rw [List.length_map]; have := hlz2; omega) (fun Q' E' its' s' H' h' => self_list H' h') ⟨rfl, rfl⟩ H ?_ ?_
  · rintro i ys l p q ⟨_, rfl⟩
    walk_at "mb"
  · rintro i v ys l cf D s E' hi ⟨X', hx', he⟩ ⟨rfl, rfl⟩ hyl H QI hQI
    have hi' : i < ((dd [] (arL pts (2 * key + 1))).take zn).length := by rw [List.length_map] at hi; exact hi
    rw [List.getElem?_map, List.getElem?_eq_getElem hi'] at hx'
    cases hx'
    obtain ⟨t, rfl⟩ := str_of_er he
    have hstep : ((dd [] (arL pts (2 * key + 1))).take zn).take (i + 1) = ((dd [] (arL pts (2 * key + 1))).take zn).take i ++ [((dd [] (arL pts (2 * key + 1))).take zn)[i]] := by rw [List.take_add_one, List.getElem?_eq_getElem hi']; rfl
    have hv := hvz2 _ (List.getElem_mem hi')
    generalize ((dd [] (arL pts (2 * key + 1))).take zn)[i] = n at *
    repeat' walk1
    refine hQI _ _ _ ⟨?_, rfl⟩ (S.tkTo H rfl rfl rfl)
    rw [hstep, List.map_append]; rfl
  rintro ys l cf X E2 s ⟨rfl, rfl⟩ hyl hcf H
  refine post_none H hcf fun s H => ?_
  rw [List.length_map, List.take_length] at H
  refine r_ne_same (S.tkTo H rfl rfl rfl) (by walk_at "mb") (by walk_at "mb") (fun v hv => by obtain ⟨n, _, rfl⟩ := List.mem_map.mp hv; exact .ref _) hA1.units ?_
  have H := H.tail.tail.tail
  iterate 5 walk1
  exact hQ _ _ hG2 (S.tkTo H rfl rfl rfl)
/-- range, every point -/
theorem turnD (w : World) (C : Cx) (hB0 : Bs PP w (hK w.params) gl C) (fa L sl : Addr)
   (doc pm : Value)
   (F : Int) (m : Nat) (xs : List Int) (bx ha c' nmA cfA P : Addr) (fd : FuncData) (q : Str) (hq : q = fd.qualname) (r : Rg) (st : RS) (rows : List Rq) (pts : List (Int × Str)) (hW : LW F st rows pts) (hpl : pts.length ≤ 60) (numV manV oneV : Option Value) (size : Int) (hsz : 1 ≤ size ∧ size ≤ 7) (naV trV : Option Value) (key : Int) (aA oA : Addr) (Z : List Item) (hZr : ∀ p ∈ rgIts w ha r st, p ∈ Z) (hZa : (aA, ListI ((arL pts (2 * key + 1)).map vs)) ∈ Z) (hZo : (oA, ListI ((dd [] (arL pts (2 * key + 1))).map vs)) ∈ Z) (hk : ∀ G, HKey w (C.wg G) ha (choIts ha (L + 6) c' F fd) (fun k => 2 * k + 1)) (hh : ∀ G, HOk w (C.wg G) ha (choIts ha (L + 6) c' F fd) (choH F) choDom)
   (G : Array GenState) (hG : BareG G)
   (A : Around) (s : Shared) (Q : Flow → Shared → Prop) (E : Value → Shared → Prop) (hA : Rm A 60 200)
   (H : S (C.wg G) ((L, NsI (frW (some (.ref sl)) (some (.ref bx)) (some (.ref nmA)) (some (.ref P)) numV manV oneV (some (vi size)) trV (some (.ref aA)) (some (.ref oA)))) :: (clW L (some (.ref ha)) (some (.ref cfA)) naV (some (.ref r.hr)) (some (vi key)) (some (vi F)) ++ ((cfA, DictI (sk PP w) (rqK rows) none) :: (bx, ListI (xs.map vi)) :: (nmA, ListI ((lets.take m).map vs)) :: (ha, FnI fd) :: (c', CodeI q) :: Z))) s)
   (hQ : ∀ G s', BareG G → S (C.wg G) ((L, NsI (frW (some (.ref sl)) (some (.ref bx)) (some (.ref nmA)) (some (.ref P)) numV manV oneV (some (vi size)) trV (some (.ref aA)) (some (.ref oA)))) :: (clW L (some (.ref ha)) (some (.ref cfA)) naV (some (.ref r.hr)) (some (vi key)) (some (vi F)) ++ ((cfA, DictI (sk PP w) (rqK rows) none) :: (bx, ListI (xs.map vi)) :: (nmA, ListI ((lets.take m).map vs)) :: (ha, FnI fd) :: (c', CodeI q) :: Z))) s' → wpAny (model PP w) A (execs ((forBody (lawB.drop 13)).drop 6) (lnv fa L doc pm (.ref 407))) Q E s') :
   wpAny (model PP w) A (execs ((forBody (lawB.drop 13)).drop 5) (lnv fa L doc pm (.ref 407))) Q E s := by
  have hB := hB0.wg G
  obtain ⟨zn, rfl⟩ : ∃ zn : Nat, size = (zn : Int) := ⟨size.toNat, by omega⟩
  have hA1 := hA
  refine (show (let env : Env := lenv fa L _ _ _ _ doc pm (.ref 407); wpAny (model PP w) A (execs (_ :: _) env) Q E s) from ?_)
  intro env
  obtain ⟨Y, hY⟩ : ∃ Y : List Item, Y = ((L, NsI (frW (some (.ref sl)) (some (.ref bx)) (some (.ref nmA)) (some (.ref P)) numV manV oneV (some (vi zn)) trV (some (.ref aA)) (some (.ref oA)))) :: (clW L (some (.ref ha)) (some (.ref cfA)) naV (some (.ref r.hr)) (some (vi key)) (some (vi F)) ++ ((cfA, DictI (sk PP w) (rqK rows) none) :: (bx, ListI (xs.map vi)) :: (nmA, ListI ((lets.take m).map vs)) :: (ha, FnI fd) :: (c', CodeI q) :: Z))) := ⟨_, rfl⟩
  have y0 : (L, NsI (frW (some (.ref sl)) (some (.ref bx)) (some (.ref nmA)) (some (.ref P)) numV manV oneV (some (vi zn)) trV (some (.ref aA)) (some (.ref oA)))) ∈ Y := by rw [hY]; walk_at "mb"
  have y1 : (L + 4, CellI (some (.ref r.hr))) ∈ Y := by rw [hY]; walk_at "mb"
  have y2 : (L + 5, CellI (some (vi key))) ∈ Y := by rw [hY]; walk_at "mb"
  have y3 : (L + 2, CellI (some (.ref cfA))) ∈ Y := by rw [hY]; walk_at "mb"
  have y4 : (cfA, DictI (sk PP w) (rqK rows) none) ∈ Y := by rw [hY]; walk_at "mb"
  have y5 : (nmA, ListI ((lets.take m).map vs)) ∈ Y := by rw [hY]; walk_at "mb"
  have y6 : (ha, FnI fd) ∈ Y := by rw [hY]; walk_at "mb"
  have hZY : ∀ p ∈ Z, p ∈ Y := fun p hp => by rw [hY]; exact List.mem_cons_of_mem _ (List.mem_append_right _ (List.mem_cons_of_mem _ (List.mem_cons_of_mem _ (List.mem_cons_of_mem _ (List.mem_cons_of_mem _ (List.mem_cons_of_mem _ hp))))))
  have hci : ∀ p ∈ choIts ha (L + 6) c' F fd, p ∈ Y := fun p hp => by
    rw [hY]
    rcases List.mem_cons.mp hp with rfl | hp
    · walk_at "mb"
    rcases List.mem_cons.mp hp with rfl | hp
    · rw [← hq]; walk_at "mb"
    rw [List.mem_singleton] at hp; subst hp
    walk_at "mb"
  have hri : ∀ p ∈ rgIts w ha r st, p ∈ Y := fun p hp => hZY _ (hZr p hp)
  rw [← hY] at H
  replace hQ : ∀ G s', BareG G → S (C.wg G) Y s' → _ := fun G s' a b => hQ G s' a (by rw [hY] at b; exact b)
  clear hY
  have hZr := hri
  have hZa := hZY _ hZa
  have hZo := hZY _ hZo
  have hno : (r.nodes, DictI (sk PP w) (nlK st.nl) none) ∈ Y := hri _ (by first | exact List.mem_of_getElem? (i := 0) rfl | exact List.mem_of_getElem? (i := 1) rfl | exact List.mem_of_getElem? (i := 2) rfl | exact List.mem_of_getElem? (i := 3) rfl | exact List.mem_of_getElem? (i := 4) rfl | exact List.mem_of_getElem? (i := 5) rfl | exact List.mem_of_getElem? (i := 6) rfl | exact List.mem_of_getElem? (i := 7) rfl | exact List.mem_of_getElem? (i := 8) rfl)
  have hva : ∀ n ∈ arL pts (2 * key + 1), valueAt (nlK st.nl) n = some (.ref (adF st.nl n)) := fun n hn => by
    obtain ⟨r, hr, e⟩ := (hW.ar_mem key n).mp hn
    rw [← e]
    exact (hW.l.ad (w := w) hW.nd hr).1
  have hal := arL_len pts (2 * key + 1)
  have hdl := dd_len (arL pts (2 * key + 1))
  repeat' walk1
  refine law_range hB0 hW hk hh (sz := none) (u := false) rfl (fun z e => nomatch e) (.four _ _) (hA1.le (by decide) (by decide)) (S.tkTo H rfl rfl rfl) hri fun Dg1 own1 G1 s hr1 hst H => ?_
  repeat' walk1
  refine r_list_gen hB0 (hA1.le (by decide) (by decide)) (nd_in (hIts := choIts ha (L + 6) c' F fd) (fun p hp => ?_) (fun p hp => ?_)) (by rw [List.length_map]; show (arL _ _).length ≤ _; omega) hst H fun D1 G1b s hr1b H => ?_
  · have h1 := hri p hp
    repeat (first | exact h1 | refine List.mem_cons_of_mem _ ?_)
  · have h1 := hci p hp
    repeat (first | exact h1 | refine List.mem_cons_of_mem _ ?_)
  simp only [outF, Int.toNat_natCast] at H
  have hB := hB0.wg G1b
  have hG1 : BareG G1b := hr1b.2.2 (hr1.2.2 hG)
  have hlz1 : (arL pts (2 * key + 1)).length ≤ 1000 := by omega
  have hvz1 : ∀ n ∈ arL pts (2 * key + 1), valueAt (nlK st.nl) n = some (.ref (adF st.nl n)) := fun n hn => hva n hn
  refine lc_eval (cl := [("ring", L + 4)]) rfl rfl (by decide) ?_
  repeat' walk1
  rename_i it1 hit1
  refine lc_go1 (nx_list aA ((arL pts (2 * key + 1)).map vs) hit1) hA1.hd (fun i ys l => ys = ((arL pts (2 * key + 1)).take i).map (fun n => (.ref (adF st.nl n) : Value)) ∧ l = _) ?_ (by decide) rfl rfl (by rw [List.length_map]; have := hlz1; omega) (fun Q' E' its' s' H' h' => self_list H' h') ⟨rfl, rfl⟩ H ?_ ?_
  · rintro i ys l p q ⟨_, rfl⟩
    walk_at "mb"
  · rintro i v ys l cf D s E' hi ⟨X', hx', he⟩ ⟨rfl, rfl⟩ hyl H QI hQI
    have hi' : i < (arL pts (2 * key + 1)).length := by rw [List.length_map] at hi; exact hi
    rw [List.getElem?_map, List.getElem?_eq_getElem hi'] at hx'
    cases hx'
    obtain ⟨t, rfl⟩ := str_of_er he
    have hstep : (arL pts (2 * key + 1)).take (i + 1) = (arL pts (2 * key + 1)).take i ++ [(arL pts (2 * key + 1))[i]] := by rw [List.take_add_one, List.getElem?_eq_getElem hi']; rfl
    have hv := hvz1 _ (List.getElem_mem hi')
    generalize (arL pts (2 * key + 1))[i] = n at *
    repeat' walk1
    refine hQI _ _ _ ⟨?_, rfl⟩ (S.tkTo H rfl rfl rfl)
    rw [hstep, List.map_append]; rfl
  rintro ys l cf X E1 s ⟨rfl, rfl⟩ hyl hcf H
  refine post_none H hcf fun s H => ?_
  rw [List.length_map, List.take_length] at H
  refine r_ne_same (S.tkTo H rfl rfl rfl) (by walk_at "mb") (by walk_at "mb") (fun v hv => by obtain ⟨n, _, rfl⟩ := List.mem_map.mp hv; exact .ref _) hA1.units ?_
  have H := H.tail.tail
  repeat' walk1
  refine law_range hB0 hW hk hh (sz := (some (zn : Int))) (u := false) rfl (fun z e => by cases e; omega) (.four _ _) (hA1.le (by decide) (by decide)) (S.tkTo H rfl rfl rfl) hri fun Dg2 own2 G2 s hr2 hst H => ?_
  repeat' walk1
  refine r_list_gen hB0 (hA1.le (by decide) (by decide)) (nd_in (hIts := choIts ha (L + 6) c' F fd) (fun p hp => ?_) (fun p hp => ?_)) (by rw [List.length_map]; simp only [outF]; rw [List.length_take]; omega) hst H fun D2 G2b s hr2b H => ?_
  · have h1 := hri p hp
    repeat (first | exact h1 | refine List.mem_cons_of_mem _ ?_)
  · have h1 := hci p hp
    repeat (first | exact h1 | refine List.mem_cons_of_mem _ ?_)
  simp only [outF, Int.toNat_natCast] at H
  have hB := hB0.wg G2b
  have hG2 : BareG G2b := hr2b.2.2 (hr2.2.2 hG1)
  have hlz2 : ((arL pts (2 * key + 1)).take zn).length ≤ 1000 := by rw [List.length_take]; omega
  have hvz2 : ∀ n ∈ (arL pts (2 * key + 1)).take zn, valueAt (nlK st.nl) n = some (.ref (adF st.nl n)) := fun n hn => hva n (List.mem_of_mem_take hn)
  refine lc_eval (cl := [("ring", L + 4)]) rfl rfl (by decide) ?_
  repeat' walk1
  rename_i sA it2 hit2
  rw [← List.map_take] at H
  refine lc_go1 (nx_list sA (((arL pts (2 * key + 1)).take zn).map vs) hit2) hA1.hd (fun i ys l => ys = (((arL pts (2 * key + 1)).take zn).take i).map (fun n => (.ref (adF st.nl n) : Value)) ∧ l = _) ?_ (by decide) rfl rfl (by rw [List.length_map]; have := hlz2; omega) (fun Q' E' its' s' H' h' => self_list H' h') ⟨rfl, rfl⟩ H ?_ ?_
  · rintro i ys l p q ⟨_, rfl⟩
    walk_at "mb"
  · rintro i v ys l cf D s E' hi ⟨X', hx', he⟩ ⟨rfl, rfl⟩ hyl H QI hQI
    have hi' : i < ((arL pts (2 * key + 1)).take zn).length := by rw [List.length_map] at hi; exact hi
    rw [List.getElem?_map, List.getElem?_eq_getElem hi'] at hx'
    cases hx'
    obtain ⟨t, rfl⟩ := str_of_er he
    have hstep : ((arL pts (2 * key + 1)).take zn).take (i + 1) = ((arL pts (2 * key + 1)).take zn).take i ++ [((arL pts (2 * key + 1)).take zn)[i]] := by rw [List.take_add_one, List.getElem?_eq_getElem hi']; rfl
    have hv := hvz2 _ (List.getElem_mem hi')
    generalize ((arL pts (2 * key + 1)).take zn)[i] = n at *
    repeat' walk1
    refine hQI _ _ _ ⟨?_, rfl⟩ (S.tkTo H rfl rfl rfl)
    rw [hstep, List.map_append]; rfl
  rintro ys l cf X E2 s ⟨rfl, rfl⟩ hyl hcf H
  refine post_none H hcf fun s H => ?_
  rw [List.length_map, List.take_length] at H
  refine r_ne_same (S.tkTo H rfl rfl rfl) (by walk_at "mb") (by walk_at "mb") (fun v hv => by obtain ⟨n, _, rfl⟩ := List.mem_map.mp hv; exact .ref _) hA1.units ?_
  have H := H.tail.tail.tail
  iterate 5 walk1
  exact hQ _ _ hG2 (S.tkTo H rfl rfl rfl)

end Mc

namespace Mc

theorem LW.own {F : Int} {st : RS} {rows : List Rq} {pts : List (Int × Str)} (h : LW F st rows pts) (nd : (st.m.rl.map (·.1)).Nodup) (key : Int) {n0 : Str} {tl : List Str} (e : arL pts (2 * key + 1) = n0 :: tl) : own st.ns st.m.rl (2 * key + 1) = vs n0 := by
  have ha := h.arr nd key
  rw [e] at ha
  have hns : st.ns ≠ [] := fun z => by rw [z] at ha; simp at ha
  have hp := posOf_lt (x := 2 * key + 1) hns
  unfold Mc.own
  rw [List.getElem?_eq_getElem hp]
  rw [List.drop_eq_getElem_cons hp, List.cons_append, List.map_cons] at ha
  injection ha with h1 _
  show (valueAt st.m.rl _).getD .none = _
  rw [(h.l.nm _ (List.getElem_mem hp)).1, h1]; rfl
theorem LW.ar_cons {F : Int} {st : RS} {rows : List Rq} {pts : List (Int × Str)} (h : LW F st rows pts) (key : Int) : ∃ n0 tl, arL pts (2 * key + 1) = n0 :: tl := by
  obtain ⟨r, hr⟩ := List.exists_mem_of_ne_nil _ h.ne
  have := (h.ar_mem key r.name).mpr ⟨r, hr, rfl⟩
  cases e : arL pts (2 * key + 1) with
  | nil => rw [e] at this; cases this
  | cons a b => exact ⟨a, b, rfl⟩
theorem lt_lets : ∀ i, i < 6 → ∀ j, j < 6 → ltCps (lets.getD i "").cps.toList (lets.getD j "").cps.toList = decide (chp (lets.getD i "") 0 < chp (lets.getD j "") 0) := by decide +kernel
theorem chp_inj : ∀ i, i < 6 → ∀ j, j < 6 → chp (lets.getD i "") 0 = chp (lets.getD j "") 0 → lets.getD i "" = lets.getD j "" := by decide +kernel
theorem ris_pw : ∀ {l : List Str} {p : Str}, p ∈ lets → (∀ x ∈ l, x ∈ lets) → risingS p l = true → ((p :: l).map fun n => chp n 0).Pairwise (· ≤ ·)
  | [], _, _, _, _ => by simp
  | x :: l, p, hp, hl, h => by
    rw [risingS, Bool.and_eq_true] at h
    have ih := ris_pw (hl x (.head _)) (fun y hy => hl y (.tail _ hy)) h.2
    obtain ⟨i, hi, rfl⟩ := lets_at hp
    obtain ⟨j, hj, e⟩ := lets_at (hl x (.head _))
    subst e
    have h1 := h.1
    rw [lt_lets j hj i hi] at h1
    have h1 : ¬ chp (lets.getD j "") 0 < chp (lets.getD i "") 0 := by simpa using h1
    rw [List.map_cons, List.pairwise_cons]
    refine ⟨fun y hy => ?_, ih⟩
    rw [List.map_cons] at hy ih
    rcases List.mem_cons.mp hy with rfl | hy
    · omega
    · have := (List.pairwise_cons.mp ih).1 y hy
      omega
theorem chp_map_inj : ∀ {xs ys : List Str}, (∀ x ∈ xs, x ∈ lets) → (∀ y ∈ ys, y ∈ lets) → (xs.map fun n => chp n 0) = (ys.map fun n => chp n 0) → xs = ys
  | [], [], _, _, _ => rfl
  | [], _ :: _, _, _, h => by simp at h
  | _ :: _, [], _, _, h => by simp at h
  | x :: xs, y :: ys, hx, hy, h => by
    rw [List.map_cons, List.map_cons] at h
    injection h with h1 h2
    obtain ⟨i, hi, rfl⟩ := lets_at (hx _ (.head _))
    obtain ⟨j, hj, e⟩ := lets_at (hy _ (.head _))
    subst e
    rw [chp_inj i hi j hj h1, chp_map_inj (fun x h => hx x (.tail _ h)) (fun y h => hy y (.tail _ h)) h2]
theorem take_sorted : ∀ m : Nat, m ≤ 5 → ((lets.take m).map fun n => chp n 0).Pairwise (· ≤ ·) := by
  intro m hm
  have h : ((lets.map fun n => chp n 0)).Pairwise (· ≤ ·) := by decide +kernel
  rw [List.map_take]
  exact h.sublist (List.take_sublist _ _)
theorem LW.names {F : Int} {st : RS} {rows : List Rq} {pts : List (Int × Str)} (h : LW F st rows pts) (key : Int) {m : Nat} (hm : m ≤ 5) (hrn : rows.map (·.name) = lets.take m) {ss : List Str} (hp : ss.Perm (dd [] (arL pts (2 * key + 1)))) (hs : sortedS ss = true) : ss = lets.take m := by
  have hmem : ∀ n, n ∈ dd [] (arL pts (2 * key + 1)) ↔ n ∈ lets.take m := fun n => by
    rw [mem_dd, h.ar_mem, ← hrn, List.mem_map]
    exact ⟨fun h => h.1, fun h => ⟨h, fun z => nomatch z⟩⟩
  have hpp : ss.Perm (lets.take m) := hp.trans ((List.perm_ext_iff_of_nodup dd_nd (take_nd m)).mpr hmem)
  have hl : ∀ n ∈ lets.take m, n ∈ lets := fun n hn => List.mem_of_mem_take hn
  have hl2 : ∀ n ∈ ss, n ∈ lets := fun n hn => hl n (hpp.mem_iff.mp hn)
  refine chp_map_inj hl2 hl (sorted_eq (hpp.map _) ?_ (take_sorted m hm))
  cases ss with
  | nil => simp
  | cons p l => exact ris_pw (hl2 p (.head _)) (fun x hx => hl2 x (.tail _ hx)) hs
/-- iterate_nodes, get_node -/
theorem turnE (w : World) (C : Cx) (hB0 : Bs PP w (hK w.params) gl C) (fa L sl : Addr)
   (doc pm : Value)
   (F : Int) (m : Nat) (xs : List Int) (bx ha c' nmA cfA P : Addr) (fd : FuncData) (q : Str) (hq : q = fd.qualname) (r : Rg) (st : RS) (rows : List Rq) (pts : List (Int × Str)) (hW : LW F st rows pts) (hpl : pts.length ≤ 60) (numV manV oneV : Option Value) (size : Int) (hsz : 1 ≤ size ∧ size ≤ 7) (naV trV : Option Value) (key : Int) (aA oA : Addr) (Z : List Item) (hZr : ∀ p ∈ rgIts w ha r st, p ∈ Z) (hZa : (aA, ListI ((arL pts (2 * key + 1)).map vs)) ∈ Z) (hZo : (oA, ListI ((dd [] (arL pts (2 * key + 1))).map vs)) ∈ Z) (hk : ∀ G, HKey w (C.wg G) ha (choIts ha (L + 6) c' F fd) (fun k => 2 * k + 1)) (hh : ∀ G, HOk w (C.wg G) ha (choIts ha (L + 6) c' F fd) (choH F) choDom) (hm : 1 ≤ m ∧ m ≤ 5) (hrn : rows.map (·.name) = lets.take m)
   (G : Array GenState) (hG : BareG G)
   (A : Around) (s : Shared) (Q : Flow → Shared → Prop) (E : Value → Shared → Prop) (hA : Rm A 60 200)
   (H : S (C.wg G) ((L, NsI (frW (some (.ref sl)) (some (.ref bx)) (some (.ref nmA)) (some (.ref P)) numV manV oneV (some (vi size)) trV (some (.ref aA)) (some (.ref oA)))) :: (clW L (some (.ref ha)) (some (.ref cfA)) naV (some (.ref r.hr)) (some (vi key)) (some (vi F)) ++ ((cfA, DictI (sk PP w) (rqK rows) none) :: (bx, ListI (xs.map vi)) :: (nmA, ListI ((lets.take m).map vs)) :: (ha, FnI fd) :: (c', CodeI q) :: Z))) s)
   (hQ : ∀ G s', BareG G → S (C.wg G) ((L, NsI (frW (some (.ref sl)) (some (.ref bx)) (some (.ref nmA)) (some (.ref P)) numV manV oneV (some (vi size)) trV (some (.ref aA)) (some (.ref oA)))) :: (clW L (some (.ref ha)) (some (.ref cfA)) naV (some (.ref r.hr)) (some (vi key)) (some (vi F)) ++ ((cfA, DictI (sk PP w) (rqK rows) none) :: (bx, ListI (xs.map vi)) :: (nmA, ListI ((lets.take m).map vs)) :: (ha, FnI fd) :: (c', CodeI q) :: Z))) s' → wpAny (model PP w) A (execs ((forBody (lawB.drop 13)).drop 7) (lnv fa L doc pm (.ref 407))) Q E s') :
   wpAny (model PP w) A (execs ((forBody (lawB.drop 13)).drop 6) (lnv fa L doc pm (.ref 407))) Q E s := by
  have hB := hB0.wg G
  have hA1 := hA
  refine (show (let env : Env := lenv fa L _ _ _ _ doc pm (.ref 407); wpAny (model PP w) A (execs (_ :: _) env) Q E s) from ?_)
  intro env
  obtain ⟨Y, hY⟩ : ∃ Y : List Item, Y = ((L, NsI (frW (some (.ref sl)) (some (.ref bx)) (some (.ref nmA)) (some (.ref P)) numV manV oneV (some (vi size)) trV (some (.ref aA)) (some (.ref oA)))) :: (clW L (some (.ref ha)) (some (.ref cfA)) naV (some (.ref r.hr)) (some (vi key)) (some (vi F)) ++ ((cfA, DictI (sk PP w) (rqK rows) none) :: (bx, ListI (xs.map vi)) :: (nmA, ListI ((lets.take m).map vs)) :: (ha, FnI fd) :: (c', CodeI q) :: Z))) := ⟨_, rfl⟩
  have y0 : (L, NsI (frW (some (.ref sl)) (some (.ref bx)) (some (.ref nmA)) (some (.ref P)) numV manV oneV (some (vi size)) trV (some (.ref aA)) (some (.ref oA)))) ∈ Y := by rw [hY]; walk_at "mb"
  have y1 : (L + 4, CellI (some (.ref r.hr))) ∈ Y := by rw [hY]; walk_at "mb"
  have y2 : (L + 5, CellI (some (vi key))) ∈ Y := by rw [hY]; walk_at "mb"
  have y3 : (L + 2, CellI (some (.ref cfA))) ∈ Y := by rw [hY]; walk_at "mb"
  have y4 : (cfA, DictI (sk PP w) (rqK rows) none) ∈ Y := by rw [hY]; walk_at "mb"
  have y5 : (nmA, ListI ((lets.take m).map vs)) ∈ Y := by rw [hY]; walk_at "mb"
  have y6 : (ha, FnI fd) ∈ Y := by rw [hY]; walk_at "mb"
  have hZY : ∀ p ∈ Z, p ∈ Y := fun p hp => by rw [hY]; exact List.mem_cons_of_mem _ (List.mem_append_right _ (List.mem_cons_of_mem _ (List.mem_cons_of_mem _ (List.mem_cons_of_mem _ (List.mem_cons_of_mem _ (List.mem_cons_of_mem _ hp))))))
  have hci : ∀ p ∈ choIts ha (L + 6) c' F fd, p ∈ Y := fun p hp => by
    rw [hY]
    rcases List.mem_cons.mp hp with rfl | hp
    · walk_at "mb"
    rcases List.mem_cons.mp hp with rfl | hp
    · rw [← hq]; walk_at "mb"
    rw [List.mem_singleton] at hp; subst hp
    walk_at "mb"
  have hri : ∀ p ∈ rgIts w ha r st, p ∈ Y := fun p hp => hZY _ (hZr p hp)
  rw [← hY] at H
  replace hQ : ∀ G s', BareG G → S (C.wg G) Y s' → _ := fun G s' a b => hQ G s' a (by rw [hY] at b; exact b)
  clear hY
  have hZr := hri
  have hZa := hZY _ hZa
  have hZo := hZY _ hZo
  have hal := arL_len pts (2 * key + 1)
  have hdl := dd_len (arL pts (2 * key + 1))
  have hd6 := hW.dd_len key
  have hn6 := hW.nl_len
  obtain ⟨n0, tl, har⟩ := hW.ar_cons key
  have hnd := (rg_nd H hri).1
  repeat' walk1
  refine law_iter hB0 hW hk hh (u := true) .one (hA1.le (by decide) (by decide)) (S.tkTo H rfl rfl rfl) hri fun Dg1 own1 G1 s hr1 hst H => ?_
  repeat' walk1
  refine r_list_gen hB0 (hA1.le (by decide) (by decide)) (nd2_in (hIts := choIts ha (L + 6) c' F fd) (fun p hp => ?_) (fun p hp => ?_)) (by rw [List.length_map]; show (dd [] _).length ≤ _; omega) hst H fun D1 G1b s hr1b H => ?_
  · have h1 := hri p hp
    repeat (first | exact h1 | refine List.mem_cons_of_mem _ ?_)
  · have h1 := hci p hp
    repeat (first | exact h1 | refine List.mem_cons_of_mem _ ?_)
  simp only [outF] at H
  have hB := hB0.wg G1b
  have hG1 : BareG G1b := hr1b.2.2 (hr1.2.2 hG)
  repeat' walk1
  refine r_ne_same (S.tkTo H rfl rfl rfl) (by walk_at "mb") (by walk_at "mb") (fun v hv => by obtain ⟨n, _, rfl⟩ := List.mem_map.mp hv; exact .str _) hA1.units ?_
  have H := H.tail
  repeat' walk1
  refine law_iter hB0 hW hk hh (u := false) (.two _) (hA1.le (by decide) (by decide)) (S.tkTo H rfl rfl rfl) hri fun Dg2 own2 G2 s hr2 hst H => ?_
  repeat' walk1
  refine r_list_gen hB0 (hA1.le (by decide) (by decide)) (nd2_in (hIts := choIts ha (L + 6) c' F fd) (fun p hp => ?_) (fun p hp => ?_)) (by rw [List.length_map]; show (arL _ _).length ≤ _; omega) hst H fun D2 G2b s hr2b H => ?_
  · have h1 := hri p hp
    repeat (first | exact h1 | refine List.mem_cons_of_mem _ ?_)
  · have h1 := hci p hp
    repeat (first | exact h1 | refine List.mem_cons_of_mem _ ?_)
  simp only [outF] at H
  have hB := hB0.wg G2b
  have hG2 : BareG G2b := hr2b.2.2 (hr2.2.2 hG1)
  repeat' walk1
  refine r_ne_same (S.tkTo H rfl rfl rfl) (by walk_at "mb") (by walk_at "mb") (fun v hv => by obtain ⟨n, _, rfl⟩ := List.mem_map.mp hv; exact .str _) hA1.units ?_
  have H := H.tail
  repeat' walk1
  refine law_get hB hW.l.lr (hk G2b) (hh G2b) (hA1.le (by decide) (by decide)) (S.tkTo H rfl rfl rfl) hri hci fun v s hv H => ?_
  rw [hW.own hnd key har] at hv
  obtain ⟨tv, rfl⟩ := er_str hv
  have g1 : (0 : Int) ≤ 0 := by decide
  have g2 : (0 : Int) < 9223372036854775808 := by decide
  have g3 : ((dd [] (arL pts (2 * key + 1))).map vs)[(0 : Int).toNat]? = some (vs n0) := by rw [har]; simp [dd]
  have g4 : ¬ (n0 != n0) = true := by simp
  repeat' walk1
  refine law_iter hB0 hW hk hh (u := true) .one (hA1.le (by decide) (by decide)) (S.tkTo H rfl rfl rfl) hri fun Dg3 own3 G3 s hr3 hst H => ?_
  repeat' walk1
  refine r_list_gen hB0 (hA1.le (by decide) (by decide)) (nd2_in (hIts := choIts ha (L + 6) c' F fd) (fun p hp => ?_) (fun p hp => ?_)) (by rw [List.length_map]; show (dd [] _).length ≤ _; omega) hst H fun D3 G3b s hr3b H => ?_
  · have h1 := hri p hp
    repeat (first | exact h1 | refine List.mem_cons_of_mem _ ?_)
  · have h1 := hci p hp
    repeat (first | exact h1 | refine List.mem_cons_of_mem _ ?_)
  simp only [outF] at H
  have hB := hB0.wg G3b
  have hG3 : BareG G3b := hr3b.2.2 (hr3.2.2 hG2)
  repeat' walk1
  refine r_sorted_strs (ys := dd [] (arL pts (2 * key + 1))) (by walk_at "st") (by walk_at "mb") (stl_map _) (by omega) fun Ds ss s hp hs H => ?_
  have hss := hW.names key hm.2 hrn hp hs
  subst hss
  have H : S (C.wg G3b) ((Ds, ListI ((lets.take m).map vs)) :: _) s := H
  repeat' walk1
  refine r_ne_same (S.tkTo H rfl rfl rfl) (by walk_at "mb") (by walk_at "mb") (fun v hv => by obtain ⟨n, _, rfl⟩ := List.mem_map.mp hv; exact .str _) hA1.units ?_
  have H := H.tail.tail
  iterate 5 walk1
  exact hQ _ _ hG3 (S.tkTo H rfl rfl rfl)

end Mc

namespace Mc

noncomputable def portF (rows : List Rq) (n : Str) : Int := ((rows.find? fun r => decide (r.name = n)).map (·.port)).getD 0
theorem port_eq {rows : List Rq} (nd : (rows.map (·.name)).Nodup) {r : Rq} (hr : r ∈ rows) : portF rows r.name = r.port := by
  unfold portF
  cases e : rows.find? fun q => decide (q.name = r.name) with
  | none => exact (List.find?_eq_none.mp e r hr (decide_eq_true rfl)).elim
  | some q =>
    have h1 := List.mem_of_find?_eq_some e
    have h2 := List.find?_some e
    obtain rfl := nodup_inj nd h1 hr (of_decide_eq_true h2)
    rfl
theorem rq_port (r : Rq) : valueAt r.kvs "port" = some (vi r.port) := by kernel_rfl
/-- the ports -/
theorem turnF (w : World) (C : Cx) (hB0 : Bs PP w (hK w.params) gl C) (fa L sl : Addr)
   (doc pm : Value)
   (F : Int) (m : Nat) (xs : List Int) (bx ha c' nmA cfA P : Addr) (fd : FuncData) (q : Str) (hq : q = fd.qualname) (r : Rg) (st : RS) (rows : List Rq) (pts : List (Int × Str)) (hW : LW F st rows pts) (hpl : pts.length ≤ 60) (numV manV oneV : Option Value) (size : Int) (hsz : 1 ≤ size ∧ size ≤ 7) (naV trV : Option Value) (key : Int) (aA oA : Addr) (Z : List Item) (hZr : ∀ p ∈ rgIts w ha r st, p ∈ Z) (hZa : (aA, ListI ((arL pts (2 * key + 1)).map vs)) ∈ Z) (hZo : (oA, ListI ((dd [] (arL pts (2 * key + 1))).map vs)) ∈ Z) (hk : ∀ G, HKey w (C.wg G) ha (choIts ha (L + 6) c' F fd) (fun k => 2 * k + 1)) (hh : ∀ G, HOk w (C.wg G) ha (choIts ha (L + 6) c' F fd) (choH F) choDom) (hZq : ∀ p ∈ rqIts w rows, p ∈ Z)
   (G : Array GenState) (hG : BareG G)
   (A : Around) (s : Shared) (Q : Flow → Shared → Prop) (E : Value → Shared → Prop) (hA : Rm A 60 200)
   (H : S (C.wg G) ((L, NsI (frW (some (.ref sl)) (some (.ref bx)) (some (.ref nmA)) (some (.ref P)) numV manV oneV (some (vi size)) trV (some (.ref aA)) (some (.ref oA)))) :: (clW L (some (.ref ha)) (some (.ref cfA)) naV (some (.ref r.hr)) (some (vi key)) (some (vi F)) ++ ((cfA, DictI (sk PP w) (rqK rows) none) :: (bx, ListI (xs.map vi)) :: (nmA, ListI ((lets.take m).map vs)) :: (ha, FnI fd) :: (c', CodeI q) :: Z))) s)
   (hQ : ∀ G s', BareG G → S (C.wg G) ((L, NsI (frW (some (.ref sl)) (some (.ref bx)) (some (.ref nmA)) (some (.ref P)) numV manV oneV (some (vi size)) trV (some (.ref aA)) (some (.ref oA)))) :: (clW L (some (.ref ha)) (some (.ref cfA)) naV (some (.ref r.hr)) (some (vi key)) (some (vi F)) ++ ((cfA, DictI (sk PP w) (rqK rows) none) :: (bx, ListI (xs.map vi)) :: (nmA, ListI ((lets.take m).map vs)) :: (ha, FnI fd) :: (c', CodeI q) :: Z))) s' → Q .next s') :
   wpAny (model PP w) A (execs ((forBody (lawB.drop 13)).drop 7) (lnv fa L doc pm (.ref 407))) Q E s := by
  have hB := hB0.wg G
  have hA1 := hA
  refine (show (let env : Env := lenv fa L _ _ _ _ doc pm (.ref 407); wpAny (model PP w) A (execs (_ :: _) env) Q E s) from ?_)
  intro env
  obtain ⟨Y, hY⟩ : ∃ Y : List Item, Y = ((L, NsI (frW (some (.ref sl)) (some (.ref bx)) (some (.ref nmA)) (some (.ref P)) numV manV oneV (some (vi size)) trV (some (.ref aA)) (some (.ref oA)))) :: (clW L (some (.ref ha)) (some (.ref cfA)) naV (some (.ref r.hr)) (some (vi key)) (some (vi F)) ++ ((cfA, DictI (sk PP w) (rqK rows) none) :: (bx, ListI (xs.map vi)) :: (nmA, ListI ((lets.take m).map vs)) :: (ha, FnI fd) :: (c', CodeI q) :: Z))) := ⟨_, rfl⟩
  have y0 : (L, NsI (frW (some (.ref sl)) (some (.ref bx)) (some (.ref nmA)) (some (.ref P)) numV manV oneV (some (vi size)) trV (some (.ref aA)) (some (.ref oA)))) ∈ Y := by rw [hY]; walk_at "mb"
  have y1 : (L + 4, CellI (some (.ref r.hr))) ∈ Y := by rw [hY]; walk_at "mb"
  have y2 : (L + 5, CellI (some (vi key))) ∈ Y := by rw [hY]; walk_at "mb"
  have y3 : (L + 2, CellI (some (.ref cfA))) ∈ Y := by rw [hY]; walk_at "mb"
  have y4 : (cfA, DictI (sk PP w) (rqK rows) none) ∈ Y := by rw [hY]; walk_at "mb"
  have y5 : (nmA, ListI ((lets.take m).map vs)) ∈ Y := by rw [hY]; walk_at "mb"
  have y6 : (ha, FnI fd) ∈ Y := by rw [hY]; walk_at "mb"
  have hZY : ∀ p ∈ Z, p ∈ Y := fun p hp => by rw [hY]; exact List.mem_cons_of_mem _ (List.mem_append_right _ (List.mem_cons_of_mem _ (List.mem_cons_of_mem _ (List.mem_cons_of_mem _ (List.mem_cons_of_mem _ (List.mem_cons_of_mem _ hp))))))
  have hci : ∀ p ∈ choIts ha (L + 6) c' F fd, p ∈ Y := fun p hp => by
    rw [hY]
    rcases List.mem_cons.mp hp with rfl | hp
    · walk_at "mb"
    rcases List.mem_cons.mp hp with rfl | hp
    · rw [← hq]; walk_at "mb"
    rw [List.mem_singleton] at hp; subst hp
    walk_at "mb"
  have hri : ∀ p ∈ rgIts w ha r st, p ∈ Y := fun p hp => hZY _ (hZr p hp)
  rw [← hY] at H
  replace hQ : ∀ G s', BareG G → S (C.wg G) Y s' → _ := fun G s' a b => hQ G s' a (by rw [hY] at b; exact b)
  clear hY
  have hZr := hri
  have hZa := hZY _ hZa
  have hZo := hZY _ hZo
  have hZq := fun p hp => hZY p (hZq p hp)
  have hal := arL_len pts (2 * key + 1)
  have hdl := dd_len (arL pts (2 * key + 1))
  have hnl : ∀ p ∈ nlIts w st.nl, p ∈ Y := fun p hp => hri p (by
    unfold rgIts
    repeat (first | exact List.mem_append_right _ hp | refine List.mem_cons_of_mem _ ?_))
  iterate 3 walk1
  refine lc_evalG (cl := []) rfl rfl (by decide) ?_
  repeat' walk1
  refine law_range hB0 hW hk hh (sz := none) (u := true) rfl (fun z e => nomatch e) .one (hA1.le (by decide) (by decide)) (S.tkTo H rfl rfl rfl) hri fun Dg own G1 s hr1 hst H => ?_
  refine wpAny_pyIter_gen (GenI.at H (List.mem_append_left _ hst.mem)) ?_
  have e0 : (outF true none (arL pts (2 * key + 1))).map (fun n => (.ref (adF st.nl n) : Value)) = (dd [] (arL pts (2 * key + 1))).map (fun n => (.ref (adF st.nl n) : Value)) := rfl
  rw [e0] at hst
  refine lc_gen hB0 (hA1.le (by decide) (by decide)) (fun i ys l => ys = ((dd [] (arL pts (2 * key + 1))).take i).map (fun n => vi (portF rows n)) ∧ l = _) ?_ (by decide) rfl rfl (by rw [List.length_map]; omega) ⟨rfl, rfl⟩ hst H ?_ ?_
  · rintro i ys l ⟨_, rfl⟩
    exact nd_in (hIts := choIts ha (L + 6) c' F fd) hri hci
  · rintro i hi v ys l cf D s G2 own2 E' hv ⟨rfl, rfl⟩ hyl H
    have hi' : i < (dd [] (arL pts (2 * key + 1))).length := by rw [List.length_map] at hi; exact hi
    have hstep : (dd [] (arL pts (2 * key + 1))).take (i + 1) = (dd [] (arL pts (2 * key + 1))).take i ++ [(dd [] (arL pts (2 * key + 1)))[i]] := by rw [List.take_add_one, List.getElem?_eq_getElem hi']; rfl
    rw [List.getElem_map] at hv
    obtain ⟨rr, hrr, hrn⟩ := (hW.ar_mem key _).mp (mem_dd.mp (List.getElem_mem hi')).1
    generalize (dd [] (arL pts (2 * key + 1)))[i] = n at *
    subst hrn
    obtain rfl := er_ref hv
    have hadr := hnl _ (hW.l.ad (w := w) hW.nd hrr).2
    have hpv := cf_port rr.cf
    have hB := hB0.wg G2
    simp only [er] at H
    repeat' walk1
    unfold Hide
    refine ⟨_, ⟨?_, rfl⟩, S.tkTo H rfl rfl rfl⟩
    rw [hstep, List.map_append, List.map_cons, List.map_nil, port_eq hW.nd hrr]; rfl
  · rintro ys l cf X E1 s G2 hr2 ⟨rfl, rfl⟩ hyl hcf H
    have hB := hB0.wg G2
    have hG2 : BareG G2 := hr2.2.2 (hr1.2.2 hG)
    refine post_none H hcf fun s H => ?_
    rw [List.length_map, List.take_length] at H
    refine lc_eval (cl := [("conf", L + 2)]) rfl rfl (by decide) ?_
    repeat' walk1
    rename_i it2 hit2
    refine lc_go1 (nx_list oA ((dd [] (arL pts (2 * key + 1))).map vs) hit2) hA1.hd (fun i ys l => ys = ((dd [] (arL pts (2 * key + 1))).take i).map (fun n => vi (portF rows n)) ∧ l = _) ?_ (by decide) rfl rfl (by rw [List.length_map]; omega) (fun Q' E' its' s' H' h' => self_list H' h') ⟨rfl, rfl⟩ H ?_ ?_
    · rintro i ys l p q ⟨_, rfl⟩
      walk_at "mb"
    · rintro i v ys l cf D s E' hi ⟨X', hx', he⟩ ⟨rfl, rfl⟩ hyl H QI hQI
      have hi' : i < (dd [] (arL pts (2 * key + 1))).length := by rw [List.length_map] at hi; exact hi
      rw [List.getElem?_map, List.getElem?_eq_getElem hi'] at hx'
      cases hx'
      obtain ⟨t, rfl⟩ := str_of_er he
      have hstep : (dd [] (arL pts (2 * key + 1))).take (i + 1) = (dd [] (arL pts (2 * key + 1))).take i ++ [(dd [] (arL pts (2 * key + 1)))[i]] := by rw [List.take_add_one, List.getElem?_eq_getElem hi']; rfl
      obtain ⟨rr, hrr, hrn⟩ := (hW.ar_mem key _).mp (mem_dd.mp (List.getElem_mem hi')).1
      generalize (dd [] (arL pts (2 * key + 1)))[i] = n at *
      subst hrn
      have hv : valueAt (rqK rows) rr.name = some (.ref rr.ad) := by
        refine valueAt_mem (us := rqK rows) ?_ (List.mem_map.mpr ⟨rr, hrr, rfl⟩)
        have : (rqK rows).map (·.1) = rows.map (·.name) := by unfold rqK; rw [List.map_map]; rfl
        rw [this]; exact hW.nd
      have hrd := hZq _ (List.mem_map.mpr ⟨rr, hrr, rfl⟩)
      have hpv := rq_port rr
      repeat' walk1
      refine hQI _ _ _ ⟨?_, rfl⟩ (S.tkTo H rfl rfl rfl)
      rw [hstep, List.map_append, List.map_cons, List.map_nil, port_eq hW.nd hrr]; rfl
    rintro ys l cf X E2 s ⟨rfl, rfl⟩ hyl hcf H
    refine post_none H hcf fun s H => ?_
    rw [List.length_map, List.take_length] at H
    refine r_ne_same (S.tkTo H rfl rfl rfl) (by walk_at "mb") (by walk_at "mb") (fun v hv => by obtain ⟨n, _, rfl⟩ := List.mem_map.mp hv; exact .int _) hA1.units ?_
    have H := H.tail.tail
    repeat' walk1
    exact hQ _ _ hG2 (S.tkTo H rfl rfl rfl)

end Mc

namespace Mc

inductive LpT (w : World) (L sl bx ha c' nmA cfA P : Addr) (fd : FuncData) (q : Str) (F : Int) (m : Nat) (r : Rg) (rows : List Rq) (numV manV oneV : Option Value) (size : Int) (Z : List Item) (i : Nat) (its : List Item) : Prop
  | mk (naV trV arV onV kyV : Option Value) (xs : List Int) (hx : xs.length ≤ 63) (h : its = ((L, NsI (frW (some (.ref sl)) (some (.ref bx)) (some (.ref nmA)) (some (.ref P)) numV manV oneV (some (vi size)) trV arV onV)) :: (clW L (some (.ref ha)) (some (.ref cfA)) naV (some (.ref r.hr)) kyV (some (vi F)) ++ ((cfA, DictI (sk PP w) (rqK rows) none) :: (bx, ListI (xs.map vi)) :: (nmA, ListI ((lets.take m).map vs)) :: (ha, FnI fd) :: (c', CodeI q) :: Z)))) : LpT w L sl bx ha c' nmA cfA P fd q F m r rows numV manV oneV size Z i its
/-- the three turns -/
theorem segF (w : World) (C : Cx) (hB : Bs PP w (hK w.params) gl C) (fa L sl : Addr)
   (doc pm : Value)
   (F : Int) (m : Nat) (hm : 1 ≤ m ∧ m ≤ 5) (xs : List Int) (hx : xs.length ≤ 63) (bx ha c' nmA cfA P : Addr) (fd : FuncData) (q : Str) (hq : q = fd.qualname) (r : Rg) (st : RS) (rows : List Rq) (hrn : rows.map (·.name) = lets.take m) (pts : List (Int × Str)) (hW : LW F st rows pts) (hpl : pts.length ≤ 60) (numV manV oneV : Option Value) (size : Int) (hsz : 1 ≤ size ∧ size ≤ 7) (naV trV arV onV kyV : Option Value) (tz : List Addr) (hts : tz.length = pts.length) (Z : List Item) (hZr : ∀ p ∈ rgIts w ha r st, p ∈ Z) (hZq : ∀ p ∈ rqIts w rows, p ∈ Z) (hP : (P, ListI (tz.map .ref)) ∈ Z) (hPt : ∀ p ∈ tupIts tz (pts.map pairOf), p ∈ Z)
   (hk : ∀ G, HKey w (C.wg G) ha (choIts ha (L + 6) c' F fd) (fun k => 2 * k + 1)) (hh : ∀ G, HOk w (C.wg G) ha (choIts ha (L + 6) c' F fd) (choH F) choDom)
   (G : Array GenState) (hG : BareG G)
   (A : Around) (s : Shared) (Q : Flow → Shared → Prop) (E : Value → Shared → Prop) (hA : Rm A 60 200)
   (H : S (C.wg G) ((L, NsI (frW (some (.ref sl)) (some (.ref bx)) (some (.ref nmA)) (some (.ref P)) numV manV oneV (some (vi size)) trV arV onV)) :: (clW L (some (.ref ha)) (some (.ref cfA)) naV (some (.ref r.hr)) kyV (some (vi F)) ++ ((cfA, DictI (sk PP w) (rqK rows) none) :: (bx, ListI (xs.map vi)) :: (nmA, ListI ((lets.take m).map vs)) :: (ha, FnI fd) :: (c', CodeI q) :: Z))) s)
   (hQ : ∀ G naV trV arV onV kyV (xs : List Int) s', BareG G → S (C.wg G) ((L, NsI (frW (some (.ref sl)) (some (.ref bx)) (some (.ref nmA)) (some (.ref P)) numV manV oneV (some (vi size)) trV arV onV)) :: (clW L (some (.ref ha)) (some (.ref cfA)) naV (some (.ref r.hr)) kyV (some (vi F)) ++ ((cfA, DictI (sk PP w) (rqK rows) none) :: (bx, ListI (xs.map vi)) :: (nmA, ListI ((lets.take m).map vs)) :: (ha, FnI fd) :: (c', CodeI q) :: Z))) s' → wpAny (model PP w) A (execs (lawB.drop 14) (lnv fa L doc pm (.ref 407))) Q E s') :
   wpAny (model PP w) A (execs (lawB.drop 13) (lnv fa L doc pm (.ref 407))) Q E s := by
  have tA := fun G => turnA w (C.wg G) (hB.wg G) fa L sl doc pm
  have tB := fun G => turnB w (C.wg G) (hB.wg G) fa L sl doc pm
  have tC := turnC w C hB fa L sl doc pm
  have tD := turnD w C hB fa L sl doc pm
  have tE := turnE w C hB fa L sl doc pm
  have tF := turnF w C hB fa L sl doc pm
  have hA1 := hA
  refine (show (let env : Env := lenv fa L _ _ _ _ doc pm (.ref 407); wpAny (model PP w) A (execs (_ :: _) env) Q E s) from ?_)
  intro env
  simp only [List.cons_append, List.nil_append] at H
  have hB0 := hB
  have hB := hB0.wg G
  repeat' walk1
  rename_i rgR it hit
  have H : S (C.wg G) ((it, RangeIt 0 3 0) :: ((L, NsI (frW (some (.ref sl)) (some (.ref bx)) (some (.ref nmA)) (some (.ref P)) numV manV oneV (some (vi size)) trV arV onV)) :: (clW L (some (.ref ha)) (some (.ref cfA)) naV (some (.ref r.hr)) kyV (some (vi F)) ++ ((cfA, DictI (sk PP w) (rqK rows) none) :: (bx, ListI (xs.map vi)) :: (nmA, ListI ((lets.take m).map vs)) :: (ha, FnI fd) :: (c', CodeI q) :: (rgR, RangeI 0 3) :: Z)))) s := S.pick (ps := [(it, _), (L, _), (L + 6, _), (L + 5, _), (L + 4, _), (L + 3, _), (L + 2, _), (L + 1, _), (cfA, _), (bx, _), (nmA, _), (ha, _), (c', _), (rgR, _)]) H (by walk_at "pick") (by walk_at "sub")
  refine for_nxG (fun G => nx_range 0 3 hit) hA1.hd (LpT w L sl bx ha c' nmA cfA P fd q F m r rows numV manV oneV size ((rgR, RangeI 0 3) :: Z)) (fun _ _ _ => trivial) ⟨naV, trV, arV, onV, kyV, xs, hx, rfl⟩ G hG H ?_ ?_
  · rintro i v l s G E' hi ⟨u, rfl⟩ ⟨naV, trV, arV, onV, kyV, xs, hx, rfl⟩ hG H QI hQI
    have hB := hB0.wg G
    simp only [List.cons_append, List.nil_append] at H
    iterate 1 walk1
    have H : S (C.wg G) ((L, NsI (frW (some (.ref sl)) (some (.ref bx)) (some (.ref nmA)) (some (.ref P)) numV manV oneV (some (vi size)) (some (vi (0 + i))) arV onV)) :: (clW L (some (.ref ha)) (some (.ref cfA)) naV (some (.ref r.hr)) kyV (some (vi F)) ++ ((cfA, DictI (sk PP w) (rqK rows) none) :: (bx, ListI (xs.map vi)) :: (nmA, ListI ((lets.take m).map vs)) :: (ha, FnI fd) :: (c', CodeI q) :: ((it, RangeIt 0 3 (i + 1)) :: (rgR, RangeI 0 3) :: Z)))) s := S.pick (ps := [(L, _), (L + 6, _), (L + 5, _), (L + 4, _), (L + 3, _), (L + 2, _), (L + 1, _), (cfA, _), (bx, _), (nmA, _), (ha, _), (c', _)]) H (by walk_at "pick") (by walk_at "sub")
    have hr1 : ∀ {p : Item}, p ∈ Z → p ∈ ((it, RangeIt 0 3 (i + 1)) :: (rgR, RangeI 0 3) :: Z) := fun h => .tail _ (.tail _ h)
    refine tA G F m xs hx bx ha c' nmA cfA P fd q r rows numV manV oneV size naV _ arV onV kyV pts (by omega) tz hts ((it, RangeIt 0 3 (i + 1)) :: (rgR, RangeI 0 3) :: Z) (hr1 hP) (fun p hp => hr1 (hPt p hp)) A s QI E' hA H fun key xs aA s hk0 hx H => ?_
    have hal := arL_len pts (2 * key + 1)
    refine tB G F m xs hx bx ha c' nmA cfA P fd q r rows numV manV oneV size naV _ arV onV kyV key aA (arL pts (2 * key + 1)) (by omega) ((aA, ListI ((arL pts (2 * key + 1)).map vs)) :: (it, RangeIt 0 3 (i + 1)) :: (rgR, RangeI 0 3) :: Z) (.head _) A s QI E' hA H fun oA naV s H => ?_
    have hr3 : ∀ {p : Item}, p ∈ Z → p ∈ ((oA, ListI ((dd [] (arL pts (2 * key + 1))).map vs)) :: (aA, ListI ((arL pts (2 * key + 1)).map vs)) :: (it, RangeIt 0 3 (i + 1)) :: (rgR, RangeI 0 3) :: Z) := fun h => .tail _ (.tail _ (.tail _ (.tail _ h)))
    refine tC F m xs bx ha c' nmA cfA P fd q hq r st rows pts hW hpl numV manV oneV size hsz naV _ key aA oA ((oA, ListI ((dd [] (arL pts (2 * key + 1))).map vs)) :: (aA, ListI ((arL pts (2 * key + 1)).map vs)) :: (it, RangeIt 0 3 (i + 1)) :: (rgR, RangeI 0 3) :: Z) (fun p hp => hr3 (hZr p hp)) (.tail _ (.head _)) (.head _) hk hh G hG A s QI E' hA H fun G s hG H => ?_
    refine tD F m xs bx ha c' nmA cfA P fd q hq r st rows pts hW hpl numV manV oneV size hsz naV _ key aA oA ((oA, ListI ((dd [] (arL pts (2 * key + 1))).map vs)) :: (aA, ListI ((arL pts (2 * key + 1)).map vs)) :: (it, RangeIt 0 3 (i + 1)) :: (rgR, RangeI 0 3) :: Z) (fun p hp => hr3 (hZr p hp)) (.tail _ (.head _)) (.head _) hk hh G hG A s QI E' hA H fun G s hG H => ?_
    refine tE F m xs bx ha c' nmA cfA P fd q hq r st rows pts hW hpl numV manV oneV size hsz naV _ key aA oA ((oA, ListI ((dd [] (arL pts (2 * key + 1))).map vs)) :: (aA, ListI ((arL pts (2 * key + 1)).map vs)) :: (it, RangeIt 0 3 (i + 1)) :: (rgR, RangeI 0 3) :: Z) (fun p hp => hr3 (hZr p hp)) (.tail _ (.head _)) (.head _) hk hh hm hrn G hG A s QI E' hA H fun G s hG H => ?_
    refine tF F m xs bx ha c' nmA cfA P fd q hq r st rows pts hW hpl numV manV oneV size hsz naV _ key aA oA ((oA, ListI ((dd [] (arL pts (2 * key + 1))).map vs)) :: (aA, ListI ((arL pts (2 * key + 1)).map vs)) :: (it, RangeIt 0 3 (i + 1)) :: (rgR, RangeI 0 3) :: Z) (fun p hp => hr3 (hZr p hp)) (.tail _ (.head _)) (.head _) hk hh (fun p hp => hr3 (hZq p hp)) G hG A s QI E' hA H fun G s hG H => ?_
    simp only [List.cons_append, List.nil_append] at H
    refine hQI s _ G hG ⟨naV, _, _, _, _, xs, hx, rfl⟩ (S.pick (ps := [(it, _), (L, _), (L + 6, _), (L + 5, _), (L + 4, _), (L + 3, _), (L + 2, _), (L + 1, _), (cfA, _), (bx, _), (nmA, _), (ha, _), (c', _), (rgR, _)]) H (by walk_at "pick") (by walk_at "sub"))
  · rintro l s G E' hG ⟨naV, trV, arV, onV, kyV, xs, hx, rfl⟩ H
    walk1
    refine hQ G naV trV arV onV kyV xs s hG ?_
    simp only [List.cons_append, List.nil_append] at H
    exact S.pick (ps := [(L, _), (L + 6, _), (L + 5, _), (L + 4, _), (L + 3, _), (L + 2, _), (L + 1, _), (cfA, _), (bx, _), (nmA, _), (ha, _), (c', _)]) H (by walk_at "pick") (by walk_at "sub")

end Mc

namespace Mc

noncomputable def goneP (rows : List Rq) (names : List Str) (n : Str) (c : Nat) : Prop := rqP rows n c ∧ n ∉ names
theorem gone_step {rows : List Rq} {names : List Str} {n : Str} : rmP (goneP rows names) n = goneP rows (names ++ [n]) := by
  funext k c
  apply propext
  unfold rmP goneP
  rw [List.mem_append, List.mem_singleton]
  exact ⟨fun ⟨a, b, d⟩ => ⟨b, fun h => h.elim d a⟩, fun ⟨b, d⟩ => ⟨fun e => d (.inr e), b, fun h => d (.inl h)⟩⟩
inductive LpD (w : World) (L sl bx ha c' nmA cfA P : Addr) (fd : FuncData) (q : Str) (F : Int) (m : Nat) (r : Rg) (rows : List Rq) (numV manV oneV : Option Value) (size : Int) (trV arV onV kyV : Option Value) (xs : List Int) (Z : List Item) (i : Nat) (its : List Item) : Prop
  | mk (naV : Option Value) (st : RS) (hl : LQ F st (goneP rows ((lets.take m).take i)) rows) (h : its = rgIts w ha r st ++ ((L, NsI (frW (some (.ref sl)) (some (.ref bx)) (some (.ref nmA)) (some (.ref P)) numV manV oneV (some (vi size)) trV arV onV)) :: (clW L (some (.ref ha)) (some (.ref cfA)) naV (some (.ref r.hr)) kyV (some (vi F)) ++ ((cfA, DictI (sk PP w) (rqK rows) none) :: (bx, ListI (xs.map vi)) :: (nmA, ListI ((lets.take m).map vs)) :: (ha, FnI fd) :: (c', CodeI q) :: Z)))) : LpD w L sl bx ha c' nmA cfA P fd q F m r rows numV manV oneV size trV arV onV kyV xs Z i its
/-- all nodes go -/
theorem segG (w : World) (C : Cx) (hB : Bs PP w (hK w.params) gl C) (fa L sl : Addr)
   (doc pm : Value)
   (F : Int) (hF : 1 ≤ F ∧ F ≤ 100) (m : Nat) (hm : 1 ≤ m ∧ m ≤ 5) (xs : List Int) (bx ha c' nmA cfA P : Addr) (fd : FuncData) (q : Str) (r : Rg) (rows : List Rq) (hrn : rows.map (·.name) = lets.take m) (numV manV oneV : Option Value) (size : Int) (naV trV arV onV kyV : Option Value) (Z : List Item) (st : RS) (hl : LQ F st (rqP rows) rows)
   (A : Around) (s : Shared) (Q : Flow → Shared → Prop) (E : Value → Shared → Prop) (hA : Rm A 60 200)
   (H : S C (rgIts w ha r st ++ ((L, NsI (frW (some (.ref sl)) (some (.ref bx)) (some (.ref nmA)) (some (.ref P)) numV manV oneV (some (vi size)) trV arV onV)) :: (clW L (some (.ref ha)) (some (.ref cfA)) naV (some (.ref r.hr)) kyV (some (vi F)) ++ ((cfA, DictI (sk PP w) (rqK rows) none) :: (bx, ListI (xs.map vi)) :: (nmA, ListI ((lets.take m).map vs)) :: (ha, FnI fd) :: (c', CodeI q) :: Z)))) s)
   (hQ : ∀ st naV s', LQ F st (goneP rows (lets.take m)) rows → S C (rgIts w ha r st ++ ((L, NsI (frW (some (.ref sl)) (some (.ref bx)) (some (.ref nmA)) (some (.ref P)) numV manV oneV (some (vi size)) trV arV onV)) :: (clW L (some (.ref ha)) (some (.ref cfA)) naV (some (.ref r.hr)) kyV (some (vi F)) ++ ((cfA, DictI (sk PP w) (rqK rows) none) :: (bx, ListI (xs.map vi)) :: (nmA, ListI ((lets.take m).map vs)) :: (ha, FnI fd) :: (c', CodeI q) :: Z)))) s' → wpAny (model PP w) A (execs (lawB.drop 15) (lnv fa L doc pm (.ref 407))) Q E s') :
   wpAny (model PP w) A (execs (lawB.drop 14) (lnv fa L doc pm (.ref 407))) Q E s := by
  have hA1 := hA
  refine (show (let env : Env := lenv fa L _ _ _ _ doc pm (.ref 407); wpAny (model PP w) A (execs (_ :: _) env) Q E s) from ?_)
  intro env
  simp only [List.cons_append, List.nil_append] at H
  repeat' walk1
  rename_i it hit
  refine for_nx1 (nx_list nmA ((lets.take m).map vs) hit) hA1.hd (LpD w L sl bx ha c' nmA cfA P fd q F m r rows numV manV oneV size trV arV onV kyV xs Z) ?_ ⟨naV, st, ?_, rfl⟩ H ?_ ?_
  · rintro i l ⟨naV, st, hl, rfl⟩
    walk_at "mb"
  · have e : goneP rows ((lets.take m).take 0) = rqP rows := by
      funext n c
      apply propext
      unfold goneP
      rw [List.take_zero]
      exact ⟨fun h => h.1, fun h => ⟨h, fun z => nomatch z⟩⟩
    rw [e]; exact hl
  · rintro i v l s E' hi ⟨X', hx', he⟩ ⟨naV, st, hl, rfl⟩ H QI hQI
    have hi' : i < (lets.take m).length := by simpa using hi
    rw [List.getElem?_map, List.getElem?_eq_getElem hi'] at hx'
    cases hx'
    obtain ⟨t, rfl⟩ := str_of_er he
    have hstep : (lets.take m).take (i + 1) = (lets.take m).take i ++ [(lets.take m)[i]] := by rw [List.take_add_one, List.getElem?_eq_getElem hi']; rfl
    have hnot : (lets.take m)[i] ∉ (lets.take m).take i := by
      intro hmem
      obtain ⟨j, hj, e⟩ := List.mem_iff_getElem.mp hmem
      rw [List.getElem_take] at e
      rw [List.length_take] at hj
      have := (List.getElem_inj (take_nd m)).mp e
      omega
    obtain ⟨rr, hrr, hre⟩ : ∃ rr ∈ rows, rr.name = (lets.take m)[i] := (fun n hn => List.mem_map.mp (by rw [hrn]; exact hn) : ∀ n ∈ lets.take m, ∃ rr ∈ rows, rr.name = n) _ (List.getElem_mem hi')
    generalize (lets.take m)[i] = n at *
    simp only [List.cons_append, List.nil_append] at H
    repeat' walk1
    have H := H.perm (List.perm_middle (a := ((it, ListIt nmA (i + 1)) : Item))).symm
    refine law_rm hB hF hl (hA1.le (by decide) (by decide)) ⟨rr.cnt, ⟨rr, hrr, hre, rfl⟩, hnot⟩ H fun st s hl H => ?_
    rw [gone_step, ← hstep] at hl
    repeat' walk1
    refine hQI _ _ (TurnEnd.next ⟨some (vs n), st, hl, rfl⟩ (S.tkTo (H.perm List.perm_middle) rfl rfl rfl))
  · rintro l s E' ⟨naV, st, hl, rfl⟩ H
    walk1
    rw [List.length_map, List.take_length] at hl
    exact hQ st naV s hl H

end Mc

namespace Mc

theorem gone_all {rows : List Rq} {m : Nat} (hrn : rows.map (·.name) = lets.take m) (n : Str) (c : Nat) : ¬ goneP rows (lets.take m) n c := by
  rintro ⟨⟨r, hr, rfl, _⟩, h⟩
  exact h (by rw [← hrn]; exact List.mem_map_of_mem hr)
theorem LQ.void {F : Int} {st : RS} {rows : List Rq} {m : Nat} (hrn : rows.map (·.name) = lets.take m) (l : LQ F st (goneP rows (lets.take m)) rows) : st.m.rl = [] ∧ st.ns = [] ∧ st.nl = [] := by
  have h1 : st.m.rl = [] := by
    cases e : st.m.rl with
    | nil => rfl
    | cons p t =>
      have : (valueAt st.m.rl p.1).isSome = true := valueAt_isSome.mpr (by rw [e]; exact .head _)
      obtain ⟨X, hX⟩ := Option.isSome_iff_exists.mp this
      obtain ⟨n, c, k, hP, _⟩ := (l.lr.ring.mr.pt p.1 X).mp hX
      exact (gone_all hrn n c hP).elim
  refine ⟨h1, ?_, ?_⟩
  · have := l.lr.ring.ok.pm
    rw [h1] at this
    exact List.Perm.eq_nil this
  · cases e : st.nl with
    | nil => rfl
    | cons p t =>
      obtain ⟨c, hP⟩ := (l.lr.ring.nls p.1).mp (by rw [e]; exact .head _)
      exact (gone_all hrn p.1 c hP).elim
section
variable {w : World} {C : Cx} {ha : Addr} {hIts : List Item} {F : Int} {st : RS} {rows : List Rq}
theorem law_range0 (hB : Bs PP w (hK w.params) gl C) {m : Nat} (hrn : rows.map (·.name) = lets.take m) (l : LQ F st (goneP rows (lets.take m)) rows) (hk : ∀ G, HKey w (C.wg G) ha hIts (fun k => 2 * k + 1)) (hh : ∀ G, HOk w (C.wg G) ha hIts (choH F) choDom) {A : Around} {G : Array GenState} {its : List Item} {s : Shared} {Q E : Value → Shared → Prop} {r : Rg} {key : Int} {t : Tok} {vals : List Value} {vz : Value} {sz : Option Int} (hvz : er vz = szV sz) (hsz : ∀ z, sz = some z → 1 ≤ z) {u : Bool} (hargs : RgArgs r.hr (.int key t) vals [] vz u)
    (hA : Rm A 8 80) (H : S (C.wg G) its s)
    (hQ : ∀ D own G' s', GRel G.size G G' → GSt PP w C D G.size 10 80 (ND w ha hIts r st) [] G' own → S (C.wg G') (own ++ its) s' → Q (.ref D) s') :
    wpAny (model PP w) A (call (.ref 310) vals) Q E s := by
  obtain ⟨e1, e2, e3⟩ := l.void hrn
  refine range_gen w C hB r.hr r.hrd r.rt r.rtd r.dist st.ka r.npts r.nodes r.rg ha r.vn hIts (choH F) choDom hh _ hk st.ns (by rw [e2]; exact List.Pairwise.nil) (by rw [e2]; decide) st.m.rl st.nl (by rw [e3]; decide) (nmF st.m.rl) (adF st.nl) (fun x hx => by rw [e2] at hx; cases hx) A G its s Q E vals [] key t vz sz hvz hsz u hargs hA.room H fun D own G' s' q1 q2 q3 => ?_
  have e : (rgo u (szF u sz st.nl.length) [] ((st.ns.drop (posOf st.ns (2 * key + 1)) ++ st.ns.take (posOf st.ns (2 * key + 1))).map (nmF st.m.rl))) = [] := by rw [e2]; simp [rgo]
  rw [e] at q2
  exact hQ D own G' s' q1 q2 q3
theorem law_iter0 (hB : Bs PP w (hK w.params) gl C) {m : Nat} (hrn : rows.map (·.name) = lets.take m) (l : LQ F st (goneP rows (lets.take m)) rows) (hk : ∀ G, HKey w (C.wg G) ha hIts (fun k => 2 * k + 1)) (hh : ∀ G, HOk w (C.wg G) ha hIts (choH F) choDom) {A : Around} {G : Array GenState} {its : List Item} {s : Shared} {Q E : Value → Shared → Prop} {r : Rg} {key : Int} {t : Tok} {vals : List Value} {u : Bool} (hargs : ItArgs r.hr (.int key t) vals u)
    (hA : Rm A 8 80) (H : S (C.wg G) its s)
    (hQ : ∀ D own G' s', GRel G.size G G' → GSt PP w C D G.size 14 100 (ND2 w ha hIts r st) [.none] G' own → S (C.wg G') (own ++ its) s' → Q (.ref D) s') :
    wpAny (model PP w) A (call (.ref 302) vals) Q E s := by
  obtain ⟨e1, e2, e3⟩ := l.void hrn
  refine iter_gen w C hB r.hr r.hrd r.rt r.rtd r.dist st.ka r.npts r.nodes r.rg ha r.vn hIts (choH F) choDom hh _ hk st.ns (by rw [e2]; exact List.Pairwise.nil) (by rw [e2]; decide) st.m.rl (by rw [e1]; decide) st.nl (by rw [e3]; decide) (nmF st.m.rl) (adF st.nl) (fun x hx => by rw [e2] at hx; cases hx) (ND2 w ha hIts r st) (fun p hp => List.mem_append_left _ hp) (fun x hx => by rw [e2] at hx; cases hx) A G its s Q E vals key t u hargs hA.room H fun D own G' s' q1 q2 q3 => ?_
  rw [e1, if_pos (show (([] : List (Int × Value)).isEmpty = true) from rfl)] at q2
  exact hQ D own G' s' q1 q2 q3
end
/-- the answer -/
theorem segH (w : World) (C : Cx) (hB0 : Bs PP w (hK w.params) gl C) (fa L sl : Addr)
   (doc pm : Value)
   (F : Int) (m : Nat) (xs : List Int) (bx ha c' nmA cfA P : Addr) (fd : FuncData) (q : Str) (hq : q = fd.qualname) (r : Rg) (rows : List Rq) (hrn : rows.map (·.name) = lets.take m) (numV manV oneV : Option Value) (size : Int) (naV trV arV onV kyV : Option Value) (Z : List Item) (hk : ∀ G, HKey w (C.wg G) ha (choIts ha (L + 6) c' F fd) (fun k => 2 * k + 1)) (hh : ∀ G, HOk w (C.wg G) ha (choIts ha (L + 6) c' F fd) (choH F) choDom) (st : RS) (hl : LQ F st (goneP rows (lets.take m)) rows) (G : Array GenState) (hG : BareG G)
   (A : Around) (s : Shared) (Q : Flow → Shared → Prop) (E : Value → Shared → Prop) (hA : Rm A 60 200)
   (H : S (C.wg G) (rgIts w ha r st ++ ((L, NsI (frW (some (.ref sl)) (some (.ref bx)) (some (.ref nmA)) (some (.ref P)) numV manV oneV (some (vi size)) trV arV onV)) :: (clW L (some (.ref ha)) (some (.ref cfA)) naV (some (.ref r.hr)) kyV (some (vi F)) ++ ((cfA, DictI (sk PP w) (rqK rows) none) :: (bx, ListI (xs.map vi)) :: (nmA, ListI ((lets.take m).map vs)) :: (ha, FnI fd) :: (c', CodeI q) :: Z)))) s)
   (hQ : ∀ G s', BareG G → S (C.wg G) (rgIts w ha r st ++ ((L, NsI (frW (some (.ref sl)) (some (.ref bx)) (some (.ref nmA)) (some (.ref P)) numV manV oneV (some (vi size)) trV arV onV)) :: (clW L (some (.ref ha)) (some (.ref cfA)) naV (some (.ref r.hr)) kyV (some (vi F)) ++ ((cfA, DictI (sk PP w) (rqK rows) none) :: (bx, ListI (xs.map vi)) :: (nmA, ListI ((lets.take m).map vs)) :: (ha, FnI fd) :: (c', CodeI q) :: Z)))) s' → Q (.ret (.bool true)) s') :
   wpAny (model PP w) A (execs (lawB.drop 15) (lnv fa L doc pm (.ref 407))) Q E s := by
  have hB := hB0.wg G
  have hA1 := hA
  refine (show (let env : Env := lenv fa L _ _ _ _ doc pm (.ref 407); wpAny (model PP w) A (execs (_ :: _) env) Q E s) from ?_)
  intro env
  have hci : ∀ p ∈ choIts ha (L + 6) c' F fd, p ∈ (rgIts w ha r st ++ ((L, NsI (frW (some (.ref sl)) (some (.ref bx)) (some (.ref nmA)) (some (.ref P)) numV manV oneV (some (vi size)) trV arV onV)) :: (clW L (some (.ref ha)) (some (.ref cfA)) naV (some (.ref r.hr)) kyV (some (vi F)) ++ ((cfA, DictI (sk PP w) (rqK rows) none) :: (bx, ListI (xs.map vi)) :: (nmA, ListI ((lets.take m).map vs)) :: (ha, FnI fd) :: (c', CodeI q) :: Z)))) := fun p hp => by
    rcases List.mem_cons.mp hp with rfl | hp
    · walk_at "mb"
    rcases List.mem_cons.mp hp with rfl | hp
    · rw [← hq]; walk_at "mb"
    rw [List.mem_singleton] at hp; subst hp
    walk_at "mb"
  have hri : ∀ p ∈ rgIts w ha r st, p ∈ (rgIts w ha r st ++ ((L, NsI (frW (some (.ref sl)) (some (.ref bx)) (some (.ref nmA)) (some (.ref P)) numV manV oneV (some (vi size)) trV arV onV)) :: (clW L (some (.ref ha)) (some (.ref cfA)) naV (some (.ref r.hr)) kyV (some (vi F)) ++ ((cfA, DictI (sk PP w) (rqK rows) none) :: (bx, ListI (xs.map vi)) :: (nmA, ListI ((lets.take m).map vs)) :: (ha, FnI fd) :: (c', CodeI q) :: Z)))) := fun p hp => List.mem_append_left _ hp
  simp only [List.cons_append, List.nil_append] at H hci hri
  repeat' walk1
  refine law_range0 hB0 hrn hl hk hh (sz := none) (u := true) rfl (fun z e => nomatch e) .one (hA1.le (by decide) (by decide)) (S.tkTo H rfl rfl rfl) fun Dg own G1 s hr1 hst H => ?_
  repeat' walk1
  refine r_list_gen hB0 (hA1.le (by decide) (by decide)) (nd_in (hIts := choIts ha (L + 6) c' F fd) (fun p hp => ?_) (fun p hp => ?_)) (by decide) hst H fun D1 G1b s hr1b H => ?_
  · have h1 := hri p hp
    repeat (first | exact h1 | refine List.mem_cons_of_mem _ ?_)
  · have h1 := hci p hp
    repeat (first | exact h1 | refine List.mem_cons_of_mem _ ?_)
  have hB := hB0.wg G1b
  have hG1 : BareG G1b := hr1b.2.2 (hr1.2.2 hG)
  repeat' walk1
  refine r_eq_same (S.tkTo H rfl rfl rfl) (by walk_at "mb") (by walk_at "mb") (fun v hv => by cases hv) hA1.units ?_
  have H := H.tail.tail
  repeat' walk1
  refine law_range0 hB0 hrn hl hk hh (sz := some 2) (u := false) rfl (fun z e => by cases e; decide) (.four _ _) (hA1.le (by decide) (by decide)) (S.tkTo H rfl rfl rfl) fun Dg own G2 s hr2 hst H => ?_
  repeat' walk1
  refine r_list_gen hB0 (hA1.le (by decide) (by decide)) (nd_in (hIts := choIts ha (L + 6) c' F fd) (fun p hp => ?_) (fun p hp => ?_)) (by decide) hst H fun D2 G2b s hr2b H => ?_
  · have h1 := hri p hp
    repeat (first | exact h1 | refine List.mem_cons_of_mem _ ?_)
  · have h1 := hci p hp
    repeat (first | exact h1 | refine List.mem_cons_of_mem _ ?_)
  have hB := hB0.wg G2b
  have hG2 : BareG G2b := hr2b.2.2 (hr2.2.2 hG1)
  repeat' walk1
  refine r_eq_same (S.tkTo H rfl rfl rfl) (by walk_at "mb") (by walk_at "mb") (fun v hv => by cases hv) hA1.units ?_
  have H := H.tail.tail
  repeat' walk1
  refine law_iter0 hB0 hrn hl hk hh (u := true) .one (hA1.le (by decide) (by decide)) (S.tkTo H rfl rfl rfl) fun Dg own G3 s hr3 hst H => ?_
  repeat' walk1
  refine r_list_gen hB0 (hA1.le (by decide) (by decide)) (nd2_in (hIts := choIts ha (L + 6) c' F fd) (fun p hp => ?_) (fun p hp => ?_)) (by decide) hst H fun D3 G3b s hr3b H => ?_
  · have h1 := hri p hp
    repeat (first | exact h1 | refine List.mem_cons_of_mem _ ?_)
  · have h1 := hci p hp
    repeat (first | exact h1 | refine List.mem_cons_of_mem _ ?_)
  have hB := hB0.wg G3b
  have hG3 : BareG G3b := hr3b.2.2 (hr3.2.2 hG2)
  repeat' walk1
  refine r_eq_same (S.tkTo H rfl rfl rfl) (by walk_at "mb") (by walk_at "mb") (fun v hv => by rw [List.mem_singleton] at hv; subst hv; exact .none) hA1.units ?_
  have H := H.tail.tail
  repeat' walk1
  exact hQ _ _ hG3 (S.tkTo H rfl rfl rfl)

end Mc

namespace Mc

theorem front {X Z : List Item} {a b c d e f g h i j k l : Item} {C : Cx} {s : Shared} (H : S C (X ++ (a :: b :: c :: d :: e :: f :: g :: h :: i :: j :: k :: l :: Z)) s) : S C (a :: b :: c :: d :: e :: f :: g :: h :: i :: j :: k :: l :: (X ++ Z)) s := H.perm (List.perm_append_comm_assoc X [a, b, c, d, e, f, g, h, i, j, k, l] Z)
theorem back12 {X Z : List Item} {a b c d e f g h i j k l : Item} {C : Cx} {s : Shared} (H : S C (a :: b :: c :: d :: e :: f :: g :: h :: i :: j :: k :: l :: (X ++ Z)) s) : S C (X ++ (a :: b :: c :: d :: e :: f :: g :: h :: i :: j :: k :: l :: Z)) s := H.perm (List.perm_append_comm_assoc X [a, b, c, d, e, f, g, h, i, j, k, l] Z).symm
/-- the whole law -/
theorem segAll (w : World) (C : Cx) (hg0 : C.g = #[]) (hB : Bs PP w (hK w.params) gl C) {p : Program} {loose : List Str} {mean : ExcName → Option Value} {mg mb : Str → Option Value} (T : Top p loose mean mg mb C.B) (hC : CodeHd C.B 407 405) (hbm : ∀ a ∈ C.tb, ∃ ps', C.B.get? a = some (tabObj ps')) (htb : C.tb = [89, 405])
   (fa L sl : Addr) (vals : List Value) (ns : List Int) (hsl : C.B.IsList sl vals.toArray) (hin : IntsAre vals ns) (hz : ns.length ≤ 63)
   (doc pm : Value)
   (A : Around) (s : Shared) (Q : Flow → Shared → Prop) (E : Value → Shared → Prop) (hA : Rm A 60 200)
   (H : S C ((L, NsI (frW (some (.ref sl)) none none none none none none none none none none)) :: (clW L none none none none none none ++ [(89, TabI #[]), (405, TabI #[])])) s)
   (hQ : ∀ tab G s', BareG G → S (C.wg G) [(89, TabI #[]), (405, TabI tab)] s' → Q (.ret (.bool true)) s') :
   wpAny (model PP w) A (execs (lawB) (lnv fa L doc pm (.ref 407))) Q E s := by
  refine segA w C hB T hC hbm htb fa L sl vals ns hsl hin hz doc pm A s Q E hA H fun F m xs bx ha c' nmA cfA ptA fd tab s hF1 hF2 hm1 hm2 hx hk hh H => ?_
  refine segB w C hB fa L sl doc pm F ⟨hF1, hF2⟩ m ⟨hm1, hm2⟩ xs hx bx ha c' nmA cfA fd _ rfl _ (hh C.g) ptA A s Q E hA H fun rows P tz numV manV naV xs s hrn hro htz hx H => ?_
  refine segC w C hB fa L sl doc pm F ⟨hF1, hF2⟩ m ⟨hm1, hm2⟩ xs hx bx ha c' nmA cfA P fd _ rfl (hh C.g) rows hrn hro numV manV naV _ tz htz A s Q E hA H fun tz pts s hp htz H => ?_
  have H := front (X := (P, ListI (tz.map .ref)) :: tupIts tz (pts.map pairOf)) H
  refine segD w C hB fa L sl doc pm F ⟨hF1, hF2⟩ m ⟨hm1, hm2⟩ xs hx bx ha c' nmA cfA P fd _ rfl (hh C.g) rows hrn hro numV manV naV _ (fun p hp => List.mem_append_right _ (List.mem_append_left _ hp)) A s Q E hA H fun r st one size xs s hx hl hsz H => ?_
  have hnd : (rows.map (·.name)).Nodup := by rw [hrn]; exact take_nd m
  have hrl : rows.length = m := by
    have := congrArg List.length hrn
    rw [List.length_map, List.length_take] at this
    have h6 : lets.length = 6 := rfl
    omega
  have hal := allP_len (F := F) hro
  have hpl : pts.length ≤ 60 := by rw [hp.pm.length_eq]; omega
  have hW : LW F st rows pts := ⟨hl, hp, hnd, hro, fun e => by rw [e] at hrl; simp at hrl; omega⟩
  have H := front H
  have hG : BareG C.g := by rw [hg0]; exact fun x hx => by simp at hx
  refine segF w C hB fa L sl doc pm F m ⟨hm1, hm2⟩ xs hx bx ha c' nmA cfA P fd _ rfl r st rows hrn pts hW hpl numV manV _ size hsz naV _ _ _ _ tz htz _ (fun p hp => List.mem_append_left _ hp) (fun p hp => List.mem_append_right _ (List.mem_append_right _ (List.mem_append_left _ hp))) (List.mem_append_right _ (List.mem_append_left _ (.head _))) (fun p hp => List.mem_append_right _ (List.mem_append_left _ (.tail _ hp))) hk hh C.g hG A s Q E hA H fun G naV trV arV onV kyV xs s hG H => ?_
  have H := back12 H
  refine segG w (C.wg G) (hB.wg G) fa L sl doc pm F ⟨hF1, hF2⟩ m ⟨hm1, hm2⟩ xs bx ha c' nmA cfA P fd _ r rows hrn numV manV _ size naV trV arV onV kyV _ st hl A s Q E hA H fun st naV s hl H => ?_
  refine segH w C hB fa L sl doc pm F m xs bx ha c' nmA cfA P fd _ rfl r rows hrn numV manV _ size naV trV arV onV kyV _ hk hh st hl G hG A s Q E hA H fun G s hG H => ?_
  refine hQ tab G s hG (H.mono ?_)
  repeat (first | exact List.Sublist.refl _ | refine List.Sublist.cons _ ?_ | refine List.Sublist.trans ?_ (List.sublist_append_right _ _))
theorem post_gen {M : Model} {A : Around} {cd : Code} {s s₁ : Shared} {cw : ClaimW} {cl : Str → Option Addr} {mean : ExcName → Option Value} {args : List WData} {tabs : List (Addr × Addr)} (hT : TabsAt tabs s₁.heap) (hr : ∀ a x, cw.raises a x = false)
    (h : codeAny M A cd (fun r s' => GoodW cw cl mean args { s₁ with heap := ghostOf s₁.heap tabs } r { s' with gens := #[] } ∧ GrownAll tabs s'.heap ∧ AllBare s'.gens) s) : codeAny M A cd (GoodWG cw cl mean args s₁) s :=
  codeAny_mono h fun r s' ⟨⟨hc, hk, hos, _⟩, hgr, hg⟩ => by
    have keep : ∀ b o, b ∉ tabs.map (·.2) → s₁.heap.get? b = some o → s'.heap.get? b = some o := fun b o hb e => hk b o (ghost_ne e hb)
    have grown : ∀ b o, b ∈ tabs.map (·.2) → s₁.heap.get? b = some o → isCodeTable s₁.heap b ∧ o = tabObj #[] ∧ ∃ ps, s'.heap.get? b = some (tabObj ps) := fun b o hb e => by
      obtain ⟨q, hq, rfl⟩ := List.mem_map.mp hb
      have e2 := (hT q hq).2
      rw [e] at e2
      exact ⟨((hT q hq).1.tab (hT q hq).2).isCodeTable, Option.some.inj e2, hgr.get q hq⟩
    refine ⟨?_, ⟨fun b o e => ?_, fun b o e => ?_⟩, hos, hg⟩
    · rcases hc with ⟨v, d, as, r1, r2, r3, r4, r5⟩ | ⟨e, ob, x, _, _, _, r4, _⟩
      · refine .inl ⟨v, d, as, r1, r2, r3, r4, fun q => ⟨(r5 q).1, fun a ha => ?_⟩⟩
        cases q1 : s₁.heap.get? a with
        | none => rfl
        | some o =>
          by_cases hb : a ∈ tabs.map (·.2)
          · obtain ⟨_, _, ps, hP⟩ := grown a o hb q1
            exact absurd ha (readsW_apart hP rfl r3)
          · have e3 := (r5 q).2 a ha
            rw [show (ghostOf s₁.heap tabs).get? a = some o from ghost_ne q1 hb] at e3
            cases e3
      · rw [hr] at r4; cases r4
    · by_cases hb : b ∈ tabs.map (·.2)
      · obtain ⟨ht, rfl, ps, hP⟩ := grown b o hb e
        exact .inr (.inl ⟨ht, rfl, #[], ps, rfl, by rw [Array.empty_append]; exact hP⟩)
      · exact .inl (keep b o hb e)
    · by_cases hb : b ∈ tabs.map (·.2)
      · obtain ⟨_, _, ps, hP⟩ := grown b o hb e
        exact ⟨_, hP⟩
      · exact ⟨o, keep b o hb e⟩
theorem good_end {cw : ClaimW} {cl : Str → Option Addr} {mean : ExcName → Option Value} {args : List WData} {s₁ s : Shared} {tab : Array Value} {G : Array GenState} (hG : BareG G) (hr : ∀ c, cw.raises args c = false) (hp : cw.post args (.bool true) args = true)
    (H : S (Cx.wg ⟨s₁.heap, [89, 405], s₁.os, #[]⟩ G) [(89, TabI #[]), (405, TabI tab)] s) :
    GoodW cw cl mean args { s₁ with heap := ghostOf s₁.heap [(93, 89), (407, 405)] } (.ok (.ret (.bool true))) { s with gens := #[] } ∧ GrownAll [(93, 89), (407, 405)] s.heap ∧ AllBare s.gens := by
  refine ⟨⟨.inl ⟨_, .bool true, [], rfl, hr, .bool _, hp, fun _ => ⟨List.nodup_nil, fun a ha => nomatch ha⟩⟩, fun b o e => ?_, H.os, rfl⟩, ⟨?_, ?_, trivial⟩, by rw [H.gens]; exact hG⟩
  · refine H.keep b o (of_hideAll _ e) fun hm => ?_
    have := hideAll_none (h := s₁.heap) _ (show b ∈ ([(93, 89), (407, 405)] : List (Addr × Addr)).map (·.2) from hm)
    rw [this] at e; cases e
  · obtain ⟨o, ho, e⟩ := H.get (.head _)
    exact ⟨#[], ho.trans (congrArg some e)⟩
  · obtain ⟨o, ho, e⟩ := H.get (.tail _ (.head _))
    exact ⟨tab, ho.trans (congrArg some e)⟩

end Mc

namespace Mc
theorem law_said : OpenLaw.wellSaid PySem.Challenge.rw_iu0043_04 = true := by kernel_rfl
theorem t0 : PySem.Challenge.rw_iu0043_04.Holds := by
  w_on
  refine holds_law law_said fun said => ?_
  refine holds_open (q := VV) (loose := looseK) (Xt := XX) (XP := XL VV []) (Yf := HK.obs) (Ya := HK.val) (YP := (kmHook hK asK eK [89, 405]).says) top_left HK.of HK.keeps (fun s e => xl_of s (Bool.and_eq_true_iff.mp e).1) XL.keeps (by rfl) (by rfl) (by rfl) (fun s e => recFacts_of (Bool.and_eq_true_iff.mp e).2) (by rfl) (by assumption) (by decide +kernel) ⟨rfl, rfl, rfl, rfl, rfl, by decide +kernel⟩ ?hw ?hc
  case hw => w_witness2
  k_fill
  intro w s₀ s₁ mg mb G Y fa o pm cd doc dV kV ho hd hcd hD hmg hg args vals as hpre hlay hrd hwl hlo
  have KX := km_in_of Y
  km_tabs Y
  have X := (Ground.X G).1
  have V := (Ground.X G).2
  refine Ground.open G ?_
  intro T B D TE TW
  try (refine guard_noD D (by decide +kernel) ?_; clear D)
  km_lay T hmg ho hd cd
  wrow_args hpre hlay hrd hwl hlo
  all_goals (first | refine callC_kw (enter_call ?_) | refine enter_call ?_)
  all_goals (w_top on)
  refine post_gen hT9 (fun _ _ => rfl) ?_
  rename Heap.IsList _ _ _ => hsl
  rename IntsAre _ _ => hints
  rename Addr => sl
  have hB := bs_of KX T
  have H := s_of T hT8 hg
  have hC := (hT9 (407, 405) (by simp)).1
  have hA : Rm callerA 61 203 := ⟨rfl, by decide +kernel, by decide +kernel⟩
  obtain rfl : dV = .none := (hD.pos.resolve_right fun h => h.1 rfl).2
  obtain rfl : kV = .none := (hD.kw.resolve_right fun h => h.1 rfl).2
  clear hD
  refine call_cellL (prog := PP) (fun L => clW L none none none none none none) H hB ho hd hcd rfl hA (BindsTo.of_eq rfl) rfl (fun _ => by kernel_rfl) (loc := frW (some (.ref sl)) none none none none none none none none none none) (by kernel_rfl) (fun _ => by kernel_rfl) (fun _ => by kernel_rfl) (fun _ => by kernel_rfl) ?_
  intro L s A1 E1 hA1 H env
  have hbm : ∀ a ∈ ([89, 405] : List Addr), ∃ ps', s₁.heap.get? a = some (tabObj ps') := fun a ha => ⟨_, hT8 a ha⟩
  refine segAll w ⟨s₁.heap, [89, 405], s₁.os, #[]⟩ rfl hB T hC hbm rfl fa L sl _ _ hsl hints (by omega) doc pm A1 s _ E1 hA1 H fun tab G s' hG H' => ?_
  exact good_end hG (fun _ => rfl) (by kernel_rfl!) H'

end Mc

theorem PySem.Challenge.cw_iu0043_04_holds : PySem.Challenge.rw_iu0043_04.Holds :=
  Mc.t0
